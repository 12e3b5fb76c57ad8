/- The block of 624 words: how it is read, how it is written; steps of the walk that lay, load and store whole arrays. -/
import Derived.Test.Qxb6618391aRows
import Derived.Test.Qxb6618391aPlain
import Derived.WalkKit
import Derived.ProofKit
import Derived.OpenShut
import Derived.WalkSpells
import Derived.Deep.WholeRow
import Derived.Deep.Draws
namespace Go.Proofs.Qxb6618391a
open Go.ChangeShapes Go.WideShapes Go.ChangeAt Go.RowKit

theorem hide {p : Prop} (h : p) : Hid p := h

theorem grown_trans {A B C : World} (h : Grown A B) (k : Grown B C) : Grown A C :=
  ⟨World.keptBut_trans h.1 k.1, fun a => (k.2.1 a).trans (h.2.1 a), Nat.le_trans h.2.2 k.2.2⟩
theorem grown_drewN {W w' : World} (h : Grown W w') (n : Nat) : Grown W (w'.drewN n) := h

/-- The 624 words that f holds, as cells. -/
def words (f : Nat → Int) : Array Value := Array.ofFn (n := 624) fun i => .int .u32 (f i.1)

theorem words_size (f : Nat → Int) : (words f).size = 624 := by simp [words]
theorem words_get (f : Nat → Int) (tail : Array Value) (j : Nat) (hj : j < 624) : (words f ++ tail)[j]? = some (.int .u32 (f j)) := by
  rw [Array.getElem?_append_left (by rw [words_size]; exact hj)]
  simp [words, hj]
theorem words_congr {f f' : Nat → Int} (h : ∀ j, j < 624 → f j = f' j) : words f = words f' := by
  unfold words
  congr 1
  funext i
  rw [h i.1 i.2]

theorem words_zero : words (fun _ => 0) = Array.replicate 624 (.int .u32 0) := by
  apply Array.ext_getElem?
  intro j
  by_cases hj : j < 624
  · simp [words, hj]
  · simp [words, hj]

theorem words_set (f : Nat → Int) (tail : Array Value) (k : Nat) (hk : k < 624) (v : Int) :
    (words f ++ tail).setIfInBounds k (.int .u32 v) = words (upd f k v) ++ tail := by
  apply Array.ext_getElem?
  intro j
  rw [Array.getElem?_setIfInBounds]
  by_cases hj : j < 624
  · rw [words_get _ _ j hj, words_get _ _ j hj]
    by_cases e : k = j
    · subst e
      rw [if_pos rfl, if_pos (by simp [words_size]; omega)]
      simp [upd]
    · rw [if_neg e]
      simp [upd, Ne.symm e]
  · rw [if_neg (by omega), Array.getElem?_append_right (by rw [words_size]; omega), Array.getElem?_append_right (by rw [words_size]; omega), words_size, words_size]

/-- Block g holds f's words, and the tail behind them. -/
def Row (w : World) (g : Nat) (t : TypeId) (tail : Array Value) (f : Nat → Int) : Prop := w.heap[g]? = some (.cells (words f ++ tail) t (0, 0))

theorem Row.cell {w : World} {g : Nat} {t : TypeId} {tail : Array Value} {f : Nat → Int} (h : Row w g t tail f) (j : Nat) (hj : j < 624) : w.cell? ⟨g, j, none⟩ = some (.int .u32 (f j)) :=
  (cell_of_row w g j _ t (0, 0) h).trans (words_get f tail j hj)
theorem Row.thaw {w : World} {g : Nat} {t : TypeId} {tail : Array Value} {f : Nat → Int} (h : Row w g t tail f) (j : Nat) : w.frozen? ⟨g, j, none⟩ = false :=
  frozen_of_row w g j _ t h
theorem Row.set {w : World} {g : Nat} {t : TypeId} {tail : Array Value} {f : Nat → Int} (h : Row w g t tail f) (k : Nat) (hk : k < 624) (v : Int) :
    Row (w.setCell ⟨g, k, none⟩ (.int .u32 v)) g t tail (upd f k v) := by
  unfold Row
  rw [heap_setCell_same w g k _ t _ h, words_set f tail k hk v]
theorem Row.drew {w : World} {g : Nat} {t : TypeId} {tail : Array Value} {f : Nat → Int} (h : Row w g t tail f) : Row w.drew g t tail f := h
theorem Row.drewN {w : World} {g : Nat} {t : TypeId} {tail : Array Value} {f : Nat → Int} (h : Row w g t tail f) (n : Nat) : Row (w.drewN n) g t tail f := h
theorem Row.same {w : World} {g : Nat} {t : TypeId} {tail : Array Value} {f f' : Nat → Int} (h : Row w g t tail f) (e : Is f f') : Row w g t tail f' := by
  unfold Row at *
  rw [h, words_congr e]

/-! ### Steps of a walk over whole arrays. Each hands the walk a world of which only the row and 'Grown' are known. -/
section
variable {P : Program} {ops : Array Oper} {rest : List Oper} {o : Oper} {a : Act} {w : World} {Q : Exit → Act → World → Prop}

theorem wpList_build_to (hgd : o.guard = none) (t : TypeId) (parts : Array (Nat × Operand)) (ho : o.op = .build t parts) (parts' : Array (Nat × Value)) (hp : (parts.map fun (i, x) => (i, a.eval x)) = parts') (cells : Array Value)
    (hb : ∀ w, (Instr.build t parts').run P w = .ok (.agg cells) w)
    (h : wpList P ops Q rest (a.put o.dst (.agg cells)) w) : wpList P ops Q (o :: rest) a w :=
  wpList_plain hgd fun _ hK => by
    unfold Oper.wp execOp
    simp only [ho, Sem.run_bind, hp, hb, Result.andThen_ok]
    exact hK _ _ h

theorem newVar_run (t : TypeId) (cells : Array Value) (w : World) : (newVar t (.agg cells)).run P w = .ok ⟨w.heap.size, 0, none⟩ (w.alloc (.cells cells t)) := by
  simp [newVar, newRow, go_sem]

theorem wpList_box_row (hgd : o.guard = none) (t : TypeId) (x : Operand) (ho : o.op = .box t x) (cells : Array Value) (hx : a.eval x = .agg cells)
    (h : ∀ (g : Nat) (w1 : World), w1.heap[g]? = some (.cells cells t (0, 0)) → w.heap.size ≤ g → g < w1.heap.size → Grown w w1 → wpList P ops Q rest (a.put o.dst (.pointer (some ⟨g, 0, none⟩))) w1) : wpList P ops Q (o :: rest) a w :=
  wpList_plain hgd fun _ hK => by
    unfold Oper.wp execOp
    simp only [ho, hx, Instr.box, Sem.run_bind, newVar_run, Result.andThen_ok, Sem.run_pure]
    exact hK _ _ (h _ _ (heap_alloc_last w _) (Nat.le_refl _) (by simp) ((Grown.refl _).alloc _ _))
end

/-! ### This program's two array types -/
theorem z23 : (Try.prog.info? 23).map (fun i => (i.zero, i.size)) = some (some (.agg (Array.replicate 624 (.int .u32 0))), 624) := by kernel_rfl
theorem b31 : Try.prog.built 31 #[(1, .int .i64 624)].toList = some ((Array.replicate 624 (.int .u32 0)).push (.int .i64 624)) := by kernel_rfl
/-- '&mt19937{next: 624}', its cells under a name. -/
theorem build31 : ∃ Z, Z = words (fun _ => 0) ++ #[.int .i64 624] ∧ ∀ w, (Instr.build 31 #[(1, .int .i64 624)]).run Try.prog w = .ok (.agg Z) w :=
  ⟨_, rfl, fun w => by rw [words_zero]; exact run_build w 31 _ _ b31⟩
end Go.Proofs.Qxb6618391a
