/- The law's own walk: the array loaded and stored whole, the two passes walked back, the last loop that asks. -/
import Derived.Test.Qxb6618391aWalkB
import Derived.Deep.DeepCutAuto
import Derived.Deep.QuietTactic
import Derived.BigQuiet
namespace Go.Proofs.Qxb6618391a
open Go.ChangeShapes Go.WideShapes Go.ChangeAt Go.RowKit

theorem backB_spell (i x y : Int) : bits .xor .u32 (IntKind.u32.wrap (x + i)) (IntKind.u32.wrap (mix y * 1566083941)) = backB i x y := by
  simp only [IntKind.wrap_u32]
  rfl
theorem backA_spell (seed x y : Int) : bits .xor .u32 (IntKind.u32.wrap (x - seed)) (IntKind.u32.wrap (mix y * 1664525)) = backA seed x y := by
  simp only [IntKind.wrap_u32]
  rfl

theorem wrap_i64_small (m : Nat) (h : m < 1000) : IntKind.i64.wrap (m : Int) = m := by
  simp [IntKind.wrap, IntKind.bits, IntKind.signed]
  omega

/-- mtMix. -/
theorem mix_any (x : Int) (_hx0 : 0 ≤ x) (_hx : x ≤ 4294967295) (w : World) :
    Calls Try.prog 5 #[.int .u32 x] w fun e w' => e = .returned (.int .u32 (mix x)) ∧ w' = w := by
  go_enter Try.func5, Try.ntmps5
  go_wp2
  go_ret
  exact ⟨rfl, rfl⟩

theorem grown_setRow {W w : World} {g : Nat} {t : TypeId} {tail : Array Value} {f : Nat → Int} {cs : Array Value} (hW : W.heap.size ≤ g) (hr : Row w g t tail f) (hg : Grown W w) : Grown W (w.setRow g cs) := by
  obtain ⟨⟨h1, h2, h3⟩, hf, hs⟩ := hg
  refine ⟨⟨h1, h2, fun i hi => ?_⟩, fun x => ?_, by simpa using hs⟩
  · rw [setRow_other w g i cs (by omega)]
    exact h3 i hi
  · rw [← hf x]
    by_cases e : x.block = g
    · unfold World.frozen?
      rw [e, setRow_heap w g _ cs t (0, 0) hr, hr]
    · unfold World.frozen?
      rw [setRow_other w g x.block cs e]

section
variable {P : Program} {ops : Array Oper} {rest : List Oper} {o : Oper} {a : Act} {w : World} {Q : Exit → Act → World → Prop}

/-- A new variable of an array type: of the world only the row is told on. -/
theorem wpList_alloc_row (hgd : o.guard = none) (t : TypeId) (ho : o.op = .alloc t) (hz : ∀ w, (zeroValue t).run P w = .ok (.agg (words fun _ => 0)) w)
    (h : ∀ (g : Nat) (w1 : World), Row w1 g t #[] (fun _ => 0) → w.heap.size ≤ g → Grown w w1 → wpList P ops Q rest (a.put o.dst (.pointer (some ⟨g, 0, none⟩))) w1) : wpList P ops Q (o :: rest) a w :=
  wpList_plain hgd fun _ hK => by
    unfold Oper.wp execOp
    simp only [ho, Instr.alloc, Sem.run_bind, hz, newVar_run, Result.andThen_ok, Sem.run_pure]
    exact hK _ _ (h _ _ (by unfold Row; rw [heap_alloc_last]; simp) (Nat.le_refl _) ((Grown.refl _).alloc _ _))

/-- A whole array into such a variable. -/
theorem wpList_store_row (hgd : o.guard = none) (t : TypeId) (x y : Operand) (ho : o.op = .store t x y) (g : Nat) (f0 f : Nat → Int) (hx : a.eval x = .pointer (some ⟨g, 0, none⟩)) (hy : a.eval y = .agg (words f))
    (hr : Row w g t #[] f0) (hi : (P.info? t).map (·.size) = some 624)
    (h : ∀ w1 : World, Row w1 g t #[] f → (∀ W, W.heap.size ≤ g → Grown W w → Grown W w1) → wpList P ops Q rest (a.put o.dst undef) w1) : wpList P ops Q (o :: rest) a w :=
  wpList_plain hgd fun _ hK => by
    have h1 : (words f).all (·.oneCell') = true := by
      rw [Array.all_eq_true_iff_forall_mem]
      intro v hv
      obtain ⟨i, hi⟩ := Array.mem_iff_getElem?.1 hv
      have hj : i < 624 := by
        have := (Array.getElem?_eq_some_iff.1 hi).1
        rwa [words_size] at this
      have e := words_get f #[] i hj
      simp only [Array.append_empty] at e
      rw [e] at hi
      cases hi
      rfl
    have hrun := run_storeVar_row (P := P) w g t t _ (words f) hr (by rw [words_size]; exact hi) (by simp [words_size]) h1
    unfold Oper.wp execOp
    simp only [ho, hx, hy, Instr.storeAt, Instr.sureAddr, Sem.run_bind, Sem.run_pure, Result.andThen_ok, hrun]
    refine hK _ _ (h _ ?_ (fun W hW hg => grown_setRow hW hr hg))
    unfold Row
    rw [setRow_heap w g _ (words f) t (0, 0) hr, Array.append_empty]

/-- A whole array out of such a variable. -/
theorem wpList_load_words (hgd : o.guard = none) (t : TypeId) (x : Operand) (ho : o.op = .load t x) (g : Nat) (f : Nat → Int) (hx : a.eval x = .pointer (some ⟨g, 0, none⟩)) (n : Nat) (e : TypeId)
    (hr : Row w g t #[] f) (hu : P.underlying t = some (.array n e)) (hi : (P.info? t).map (·.size) = some 624)
    (h : wpList P ops Q rest (a.put o.dst (.agg (words f))) w) : wpList P ops Q (o :: rest) a w := by
  unfold Row at hr
  rw [Array.append_empty] at hr
  exact wpList_load_row hgd t x ho g hx t (words f) (0, 0) _ hr hu rfl (by rw [words_size]; exact hi) h
end

set_option maxRecDepth 100000 in
set_option maxHeartbeats 1600000 in
theorem law_any (seed : Int) (hs : U32 seed) (w : World) :
    Calls Try.prog 3 #[.int .u32 seed] w fun e w' => e = .returned (.bool true) ∧ Grown w w' := by
  obtain ⟨Z, hZ, hz⟩ := zero23
  rw [hZ] at hz
  have HZ := hide hz
  clear hz hZ Z
  obtain ⟨s0, s1⟩ := hs
  have hu := Try.underlying23
  go_enter Try.func3, Try.ntmps3
  go_wp2_with fail
  refine (zz_any seed ⟨s0, s1⟩ _).mono ?_
  rintro e w1 ⟨rfl, hg1⟩
  go_wp2_with (first
    | (refine wpList_alloc_row rfl 23 rfl HZ.out ?_; intro g w2 hr hge hgr)
    | (refine wpList_store_row rfl 23 (.tmp 3) (.tmp 13) rfl g _ (out seed) (by simp [Act.eval, Act.put]) (by simp [Act.eval, Act.put]) hr size23 ?_; intro w3 hr3 hgg3; have hG3 := hgg3 w (Nat.le_trans hg1.2.2 hge) (grown_trans hg1 hgr); have c0 : w3.cell? ⟨g, 0, none⟩ = some (.int .u32 2147483648) := hr3.cell 0 (by decide); clear hgg3 hr hgr)
    | (refine wpList_load_words rfl 23 (.tmp 3) rfl g (out seed) (by simp [Act.eval]) _ _ hr3 Try.underlying23 size23 ?_; clear hr3 c0)
    | (refine wpList_store_row rfl 23 (.tmp 6) (.tmp 23) rfl g _ (out seed) (by simp [Act.eval, Act.put]) (by simp [Act.eval, Act.put]) hr size23 ?_; intro w4 hr4 hgg4; have hG4 := hgg4 w (Nat.le_trans hG3.2.2 hge) (grown_trans hG3 hgr); have hge4 : w.heap.size ≤ g := Nat.le_trans hG3.2.2 hge; have k0 : w4.cell? ⟨g, 0, none⟩ = some (.int .u32 2147483648) := hr4.cell 0 (by decide); have k623 : w4.cell? ⟨g, 623, none⟩ = some (.int .u32 (wB seed 623)) := hr4.cell 623 (by decide); have kf := hr4.thaw 0; clear hgg4 hr hgr))
  have hr5 : Row (w4.setCell ⟨g, 0, none⟩ (.int .u32 (wB seed 623))) g 23 #[] (g1 seed) := hr4.set 0 (by decide) _
  have hG5 : Grown w (w4.setCell ⟨g, 0, none⟩ (.int .u32 (wB seed 623))) := hG4.setCell hge4 _
  generalize w4.setCell ⟨g, 0, none⟩ (.int .u32 (wB seed 623)) = w5 at *
  clear k0 k623 kf hr4 hG4 hG3
  have c0 : w5.cell? ⟨g, 0, none⟩ = some (.int .u32 (wB seed 623)) := hr5.cell 0 (by decide)
  have c1 : w5.cell? ⟨g, 1, none⟩ = some (.int .u32 (wB1 seed)) := hr5.cell 1 (by decide)
  have f1 := hr5.thaw 1
  obtain ⟨x0, x1⟩ := wB_word seed 623
  obtain ⟨y0, y1⟩ := wB1_word seed
  go_cut [] (fun wc => Row wc g 23 #[] (g2 seed) ∧ Grown w wc)
  case first =>
    go_region_with (first | (go_at_call 5; refine (mix_any _ x0 x1 _).mono ?_; rintro e w' ⟨rfl, rfl⟩))
    all_goals
      go_wp2
      go_meet
      case rel =>
        refine ⟨?_, (hG5.setCell hge4 _).drew⟩
        rw [backB_spell]
        exact (hr5.set 1 (by decide) _).drew
  case rest =>
    obtain ⟨hr6, hG6⟩ := hcut
    clear c0 c1 f1 hr5 hG5 x0 x1 y0 y1
    go_wp2_with fail
    go_loopw [7] (fun i wr => ∃ m : Nat, m ≤ 622 ∧ i = .int .i64 (m + 1) ∧ Row wr g 23 #[] (fC seed m) ∧ Grown w wr) (fun i _ => (intOf i).toNat)
    case atStart => exact ⟨622, by omega, rfl, hr6.same (fC_start seed), hG6⟩
    case round =>
      clear hr6 hG6
      obtain ⟨m, hm, rfl, hr, hG⟩ := hrel
      by_cases hlt : 1 ≤ m
      · have c0 : wr.cell? ⟨g, m, none⟩ = some (.int .u32 (wB seed m)) := by rw [hr.cell m (by omega), fC, if_neg (by omega), if_pos (by omega)]
        have c1 : wr.cell? ⟨g, m + 1, none⟩ = some (.int .u32 (wB seed (m + 1))) := by rw [hr.cell (m + 1) (by omega), fC, if_neg (by omega), if_pos (by omega)]
        have f1 := hr.thaw (m + 1)
        obtain ⟨x0, x1⟩ := wB_word seed m
        obtain ⟨y0, y1⟩ := wB_word seed (m + 1)
        have HR := hide hr
        clear hr
        have i0 : (0 : Int) ≤ (m : Int) := by omega
        have i1 : (m : Int) < 624 := by omega
        have i2 : (m : Int) + 1 < 624 := by omega
        have i3 : (0 : Int) ≤ (m : Int) + 1 := by omega
        have i4 : IntKind.i64.wrap (m : Int) = m := wrap_i64_small m (by omega)
        have i5 : IntKind.u32.wrap ((m : Int) + 1) = m + 1 := by rw [IntKind.wrap_u32]; omega
        go_wp2_with fail
        go_region_with (first | (go_at_call 5; refine (mix_any _ x0 x1 _).mono ?_; rintro e w' ⟨rfl, rfl⟩))
        all_goals
          go_wp2
          go_roundw
          case rel => exact ⟨m - 1, by omega, by go_num, ((HR.out.set (m + 1) (by omega) _).drew).same (fC_step seed m hlt), (hG.setCell hge4 _).drew⟩
          case measure => simp [intOf]
      · have h01 : (m : Int) + 1 = 1 := by omega
        rw [h01]
        clear h01
        obtain rfl : m = 0 := by omega
        have c623 : wr.cell? ⟨g, 623, none⟩ = some (.int .u32 (wA seed 623)) := hr.cell 623 (by decide)
        have c0 : wr.cell? ⟨g, 0, none⟩ = some (.int .u32 (wB seed 623)) := hr.cell 0 (by decide)
        have c1 : wr.cell? ⟨g, 1, none⟩ = some (.int .u32 (wA1 seed)) := hr.cell 1 (by decide)
        have f0 := hr.thaw 0
        have HR := hide hr
        clear hr
        go_wp2_with fail
        have hr7 : Row (wr.setCell ⟨g, 0, none⟩ (.int .u32 (wA seed 623))) g 23 #[] (g3 seed) := HR.out.set 0 (by decide) _
        have hG7 : Grown w (wr.setCell ⟨g, 0, none⟩ (.int .u32 (wA seed 623))) := hG.setCell hge4 _
        generalize wr.setCell ⟨g, 0, none⟩ (.int .u32 (wA seed 623)) = w7 at *
        clear c623 c0 c1 f0 HR hG
        have c0 : w7.cell? ⟨g, 0, none⟩ = some (.int .u32 (wA seed 623)) := hr7.cell 0 (by decide)
        have c1 : w7.cell? ⟨g, 1, none⟩ = some (.int .u32 (wA1 seed)) := hr7.cell 1 (by decide)
        have f1 := hr7.thaw 1
        obtain ⟨x0, x1⟩ := wA_word seed 623
        obtain ⟨y0, y1⟩ := wA1_word seed
        go_cut [] (fun wc => Row wc g 23 #[] (g4 seed) ∧ Grown w wc)
        case first =>
          go_region_with (first | (go_at_call 5; refine (mix_any _ x0 x1 _).mono ?_; rintro e w' ⟨rfl, rfl⟩))
          all_goals
            go_wp2
            go_meet
            case rel =>
              refine ⟨?_, (hG7.setCell hge4 _).drew⟩
              rw [backA_spell]
              exact (hr7.set 1 (by decide) _).drew
        case rest =>
          obtain ⟨hr8, hG8⟩ := hcut
          clear c0 c1 f1 hr7 hG7 x0 x1 y0 y1
          have c0 : wc.cell? ⟨g, 0, none⟩ = some (.int .u32 (wA seed 623)) := hr8.cell 0 (by decide)
          have f0 := hr8.thaw 0
          have HR8 := hide hr8
          clear hr8
          go_wp2_with fail
          go_loopw [8] (fun i wr => ∃ m : Nat, m ≤ 623 ∧ i = .int .i64 m ∧ Row wr g 23 #[] (fD seed m) ∧ Grown w wr) (fun i _ => (intOf i).toNat)
          case atStart => exact ⟨623, by omega, rfl, (HR8.out.set 0 (by decide) _).same (fD_start seed), hG8.setCell hge4 _⟩
          case round =>
            clear HR8 hG8 c0 f0
            obtain ⟨m, hm, rfl, hr, hG⟩ := hrel
            by_cases hlt : 1 ≤ m
            · obtain ⟨p, rfl⟩ : ∃ p, m = p + 1 := ⟨m - 1, by omega⟩
              have c0 : wr.cell? ⟨g, p, none⟩ = some (.int .u32 (wA seed p)) := by rw [hr.cell p (by omega), fD, if_pos (by omega)]
              have c1 : wr.cell? ⟨g, p + 1, none⟩ = some (.int .u32 (wA seed (p + 1))) := by rw [hr.cell (p + 1) (by omega), fD, if_pos (by omega)]
              have f1 := hr.thaw (p + 1)
              obtain ⟨x0, x1⟩ := wA_word seed p
              obtain ⟨y0, y1⟩ := wA_word seed (p + 1)
              have HR := hide hr
              clear hr
              have i0 : (0 : Int) ≤ (p : Int) := by omega
              have i1 : (p : Int) < 624 := by omega
              have i2 : (p : Int) + 1 < 624 := by omega
              have i3 : (0 : Int) ≤ (p : Int) + 1 := by omega
              have i4 : IntKind.i64.wrap (p : Int) = p := wrap_i64_small p (by omega)
              go_wp2_with fail
              go_region_with (first | (go_at_call 5; refine (mix_any _ x0 x1 _).mono ?_; rintro e w' ⟨rfl, rfl⟩))
              all_goals
                go_wp2
                go_roundw
                case rel => exact ⟨p, by omega, by go_num, ((HR.out.set (p + 1) (by omega) _).drew).same (fD_step seed p), (hG.setCell hge4 _).drew⟩
                case measure => simp [intOf]
            · obtain rfl : m = 0 := by omega
              have HR := hide (hr.same (fD_end seed))
              clear hr
              go_wp2_with fail
              go_loopw [9] (fun i wr => ∃ k : Nat, k ≤ 623 ∧ i = .int .i64 (k + 1) ∧ Row wr g 23 #[] ini ∧ Grown w wr) (fun i _ => 624 - (intOf i).toNat)
              case atStart => exact ⟨0, by omega, rfl, HR.out, hG⟩
              case round =>
                clear HR hG hlt hm
                obtain ⟨k, hk, rfl, hr, hG⟩ := hrel
                by_cases hlt : k < 623
                · have c0 := hr.cell k (by omega)
                  have c1 : wr.cell? ⟨g, k + 1, none⟩ = some (.int .u32 ((1812433253 * mix (ini k) + (k + 1)) % 4294967296)) := hr.cell (k + 1) (by omega)
                  obtain ⟨x0, x1⟩ := ini_word k
                  have HR := hide hr
                  clear hr
                  have i1 : (k : Int) < 624 := by omega
                  have i2 : (k : Int) + 1 < 624 := by omega
                  go_wp2_with fail
                  go_quiet (first | (go_at_call 5; refine Calls.quiet_of_same (mix_any _ x0 x1 _)))
                  go_wp2
                  go_roundw
                  case rel => exact ⟨k + 1, by omega, by go_num, HR.out.drewN nq, grown_drewN hG nq⟩
                  case measure => simp [intOf]; omega
                · go_wp2
                  go_ret
                  exact ⟨rfl, hG⟩
end Go.Proofs.Qxb6618391a
