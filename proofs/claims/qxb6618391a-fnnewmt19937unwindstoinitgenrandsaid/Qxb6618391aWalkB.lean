/- The block under growth, by ranges; the walk of the wrapper ZZNewMT19937: a whole array by value. -/
import Derived.Test.Qxb6618391aWalkA
import Derived.Deep.RegionHeld3
namespace Go.Proofs.Qxb6618391a
open Go.ChangeShapes Go.WideShapes Go.ChangeAt Go.RowKit

theorem Row.grown {w w' : World} {g : Nat} {t : TypeId} {tail : Array Value} {f : Nat → Int} (h : Row w g t tail f) (hg : Grown w w') : Row w' g t tail f := by
  have hlt : g < w.heap.size := (Array.getElem?_eq_some_iff.1 h).1
  have k := hg.1.2.2 g hlt
  unfold Row at *
  rw [h] at k
  cases e : w'.heap[g]? with
  | none => simp [e] at k
  | some o =>
    cases o with
    | cells c t' fr =>
      simp only [e] at k
      obtain ⟨rfl, rfl, _, hc⟩ := k
      have : c = words f ++ tail := by
        apply Array.ext_getElem?
        intro j
        exact hc j (fun x => x.elim)
      rw [this]
    | _ => simp [e] at k
theorem Row.range {w : World} {g : Nat} {t : TypeId} {tail : Array Value} {f : Nat → Int} (h : Row w g t tail f) : w.rangeAt g 0 (words f).toList := by
  intro j v hv
  have hj : j < 624 := by
    have := (List.getElem?_eq_some_iff.1 hv).1
    simpa [words_size] using this
  have e : (words f).toList[j]? = some (.int .u32 (f j)) := by
    rw [Array.getElem?_toList]
    simpa using words_get f #[] j hj
  rw [Nat.zero_add, h.cell j hj, ← hv, e]
theorem Row.there {w : World} {g : Nat} {t : TypeId} {tail : Array Value} {f : Nat → Int} (h : Row w g t tail f) : w.there g 0 624 := by
  intro j hj
  rw [Nat.zero_add, h.cell j hj]
  exact ⟨rfl, h.thaw j⟩
theorem Row.behind {w : World} {g : Nat} {t : TypeId} {v : Value} {f : Nat → Int} (h : Row w g t #[v] f) : w.cell? ⟨g, 624, none⟩ = some v := by
  rw [cell_of_row w g 624 _ t (0, 0) h, Array.getElem?_append_right (by rw [words_size]; omega), words_size]
  rfl
theorem grown_setCells {W : World} {g : Nat} (hg : W.heap.size ≤ g) : ∀ (vs : List Value) (o : Nat) (w' : World), Grown W w' → Grown W (w'.setCells g o vs)
  | [], _, _, h => h
  | v :: r, o, w', h => by
    rw [World.setCells]
    exact grown_setCells hg r (o + 1) _ (h.setCell hg v)
theorem zero23 : ∃ Z, Z = words (fun _ => 0) ∧ ∀ w, (zeroValue 23).run Try.prog w = .ok (.agg Z) w :=
  ⟨_, rfl, by rw [words_zero]; exact (zero_of_info z23).1⟩
theorem size23 : (Try.prog.info? 23).map (·.size) = some 624 := (zero_of_info z23).2

theorem results_ctt {P : Program} {fn : Func} {p u v : Tmp} {ty : TypeId} (h : fn.results = #[.cell p ty, .tmp u, .tmp v]) (tmps : Array Value) (w : World) (a : Addr) (hp : tmps.getD p undef = .pointer (some a)) (x : Value)
    (hl : (loadVar ty a).run P w = .ok x w) : (results fn tmps).run P w = .ok (.tuple #[x, tmps.getD u undef, tmps.getD v undef]) w := by
  simp only [results, h]
  simp only [Array.getD_eq_getD_getElem?] at *
  simp [Result.andThen, hp, hl, asAddr]

set_option maxRecDepth 100000 in
set_option maxHeartbeats 1600000 in
theorem zz_any (seed : Int) (hs : U32 seed) (w : World) :
    Calls Try.prog 4 #[.int .u32 seed] w fun e w' => e = .returned (.tuple #[.agg (words (out seed)), .int .i64 624, .bool true]) ∧ Grown w w' := by
  obtain ⟨Z, hZ, hz⟩ := zero23
  have HZ := hide hZ
  clear hZ
  have hc0 : ∃ cs : List Value, cs = (words (out seed)).toList := ⟨_, rfl⟩
  obtain ⟨cs, hcs⟩ := hc0
  have hlen : cs.length = 624 := by rw [hcs]; simp [words_size]
  have hone : ∀ v ∈ cs, v.oneCell' = true := by
    intro v hv
    rw [hcs] at hv
    obtain ⟨i, hi⟩ := List.mem_iff_getElem?.1 hv
    have hj : i < 624 := by
      have := (List.getElem?_eq_some_iff.1 hi).1
      simpa [words_size] using this
    have e : (words (out seed)).toList[i]? = some (.int .u32 (out seed i)) := by
      rw [Array.getElem?_toList]
      simpa using words_get (out seed) #[] i hj
    rw [e] at hi
    cases hi
    rfl
  have hsz : (Try.prog.info? 23).map (·.size) = some cs.length := by rw [hlen]; exact size23
  have hu := Try.underlying23
  have harr : words (out seed) = cs.toArray := by rw [hcs]
  rw [harr]
  have HC := hide hcs
  clear hcs harr
  have HS := hide hs
  go_enter Try.func4, Try.ntmps4
  go_wp2_with fail
  refine (new_any seed HS.out _).mono ?_
  rintro e w1 ⟨g, rfl, hrow, hge, hgr⟩
  have hrg : w1.rangeAt g 0 cs := by rw [HC.out]; exact hrow.range
  have hth : w1.there w.heap.size 0 624 := by
    have h0 : Row (w.alloc (.cells Z 23)) w.heap.size 23 #[] (fun _ => 0) := by
      unfold Row
      rw [heap_alloc_last, HZ.out]
      simp
    exact (h0.grown hgr).there
  have hnx := hrow.behind
  have hne : g ≠ w.heap.size := by simp at hge; omega
  have hg : Grown w w1 := grown_trans ((Grown.refl w).alloc _ _) hgr
  clear hrow hgr hge
  go_wp2_with fail
  go_region_held3 (fun w' => w'.rangeAt g 0 cs ∧ w'.there w.heap.size 0 624 ∧ w'.cell? ⟨g, 624, none⟩ = some (.int .i64 624))
    (first | exact ⟨hrg, hth, hnx⟩ | exact ⟨World.rangeAt_setCells_apart (w := w1.drew) hrg _ _ _ (Or.inl hne), World.there_setCells (w := w1.drew) hth _ _ _, (World.cell?_setCells_out _ _ _ w1.drew _ (fun h _ => absurd h hne)).trans hnx⟩)
    (fail)
  go_wp2
  refine bodyPost_ret (v := .tuple #[.agg cs.toArray, .int .i64 624, .bool true]) ?_ rfl ⟨rfl, grown_setCells (Nat.le_refl _) cs 0 _ hg.drew⟩
  refine results_ctt Try.results4 _ _ ⟨w.heap.size, 0, none⟩ rfl _ ?_
  exact run_loadVar_mid _ _ _ 23 cs _ (World.rangeAt_setCells_same w1.drew w.heap.size 0 cs (by rw [hlen]; exact hth)) hu rfl hsz
end Go.Proofs.Qxb6618391a
