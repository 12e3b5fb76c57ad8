/- The walk of newMT19937: three loops over one block. -/
import Derived.Test.Qxb6618391aBase

namespace Go.Proofs.Qxb6618391a
open Go.ChangeShapes Go.WideShapes Go.ChangeAt Go.RowKit

set_option maxRecDepth 100000 in
set_option maxHeartbeats 1600000 in
theorem new_any (seed : Int) (hs : U32 seed) (w : World) :
    Calls Try.prog 6 #[.int .u32 seed] w fun e w' => ∃ g, e = .returned (.pointer (some ⟨g, 0, none⟩)) ∧ Row w' g 31 #[.int .i64 624] (out seed) ∧ w.heap.size ≤ g ∧ Grown w w' := by
  obtain ⟨hs0, hs1⟩ := hs
  obtain ⟨Z, hZ, hb⟩ := build31
  have HB := hide hb
  have HZ := hide hZ
  clear hb hZ
  go_enter Try.func6, Try.ntmps6
  go_wp2_with (first
    | (refine wpList_build_to rfl 31 _ rfl #[(1, .int .i64 624)] (by kernel_rfl) Z HB.out ?_)
    | (refine wpList_box_row rfl 31 _ rfl Z (by simp [Act.eval, Act.put]) ?_; intro g w1 hrow hge hlt hgr; have HR := hide ((show Row w1 g 31 #[.int .i64 624] (fun _ => 0) by unfold Row; rw [← HZ.out]; exact hrow)); clear hrow; have hc := HR.out.cell 0 (by decide); have hf := HR.out.thaw 0))
  go_loopw [5] (fun i wr => ∃ k : Nat, k ≤ 623 ∧ i = .int .i64 (k + 1) ∧ Row wr g 31 #[.int .i64 624] (f1 k) ∧ Grown w wr)
    (fun i _ => 624 - (intOf i).toNat)
  case atStart =>
    exact ⟨0, by omega, rfl, (HR.out.set 0 (by decide) 19650218).same (f1_start _ rfl), hgr.setCell hge _⟩
  case round =>
    obtain ⟨k, hk, rfl, hrow, hgr2⟩ := hrel
    clear HR hgr hc hf HB HZ
    have HRR := hide hrow
    by_cases hlt : k < 623
    · have c1 : wr.cell? ⟨g, k, none⟩ = some (.int .u32 (ini k)) := by rw [hrow.cell k (by omega), f1, if_pos (Nat.le_refl k)]
      have c2 : wr.cell? ⟨g, k + 1, none⟩ = some (.int .u32 0) := by rw [hrow.cell (k + 1) (by omega), f1, if_neg (by omega)]
      have f2 := hrow.thaw (k + 1)
      clear hrow
      obtain ⟨b0, b1⟩ := ini_word k
      go_wp2
      go_region
      go_wp2
      go_roundw
      case rel => exact ⟨k + 1, by omega, by go_num, ((HRR.out.set (k + 1) (by omega) _).drew).same (f1_step k), (hgr2.setCell hge _).drew⟩
      case measure => simp [intOf]; omega
    · obtain rfl : k = 623 := by omega
      clear hrow
      go_wp2_with fail
      go_loopw [6, 41] (fun i c wr => ∃ n i' : Nat, ∃ f, n ≤ 624 ∧ c = .int .i64 n ∧ i = .int .i64 i' ∧ PA seed n i' f ∧ Row wr g 31 #[.int .i64 624] f ∧ Grown w wr)
        (fun _ c _ => 624 - (intOf c).toNat)
      case atStart =>
        exact ⟨0, 1, _, by omega, rfl, rfl, PA_start seed, HRR.out, hgr2⟩
      case round =>
        clear HRR hgr2 hlt hk
        obtain ⟨n, i', f, hn, rfl, rfl, hP, hrow, hgr2⟩ := hrel
        have HRR := hide hrow
        have HP := hide hP
        by_cases hlt : n < 624
        · obtain ⟨m, rfl, hm⟩ := PA_index hP hlt
          obtain ⟨x0, x1⟩ := PA_word hP m (by omega)
          obtain ⟨y0, y1⟩ := PA_word hP (m + 1) (by omega)
          by_cases hm2 : m + 1 < 623
          · have c1 := hrow.cell m (by omega)
            have c2 := hrow.cell (m + 1) (by omega)
            have f2 := hrow.thaw (m + 1)
            clear hrow hP
            go_wp2
            go_region
            go_wp2
            go_roundw
            case rel => 
              refine ⟨n + 1, m + 2, _, by omega, by go_num, by go_num, PA_step HP.out hlt hm2, ?_, (hgr2.setCell hge _).drew⟩
              exact (HRR.out.set (m + 1) (by omega) _).drew
            case measure => simp [intOf]; omega
          · obtain rfl : m = 622 := by omega
            have c1 := hrow.cell 622 (by omega)
            have c2 := hrow.cell 623 (by omega)
            have c0 := hrow.cell 0 (by omega)
            have f2 := hrow.thaw 623
            have f0 := hrow.thaw 0
            clear hrow hP
            go_wp2
            go_region
            go_wp2
            go_region
            go_wp2
            go_roundw
            case rel =>
              refine ⟨n + 1, 1, _, by omega, by go_num, by go_num, PA_wrap HP.out, ?_, ((hgr2.setCell hge _).drew.setCell hge _).drew⟩
              exact (((HRR.out.set 623 (by omega) _).drew).set 0 (by omega) _).drew
            case measure => simp [intOf]; omega
        · obtain rfl : n = 624 := by omega
          clear hrow hP
          go_wp2_with fail
          go_loopw [6, 82] (fun i c wr => ∃ n i' : Nat, ∃ f, n ≤ 623 ∧ c = .int .i64 n ∧ i = .int .i64 i' ∧ PB seed n i' f ∧ Row wr g 31 #[.int .i64 624] f ∧ Grown w wr)
            (fun _ c _ => 623 - (intOf c).toNat)
          case atStart =>
            exact ⟨0, i', _, by omega, rfl, rfl, PB_start HP.out, HRR.out, hgr2⟩
          case round =>
            clear HRR hgr2 hlt hn HP
            obtain ⟨n, i', f, hn, rfl, rfl, hP, hrow, hgr2⟩ := hrel
            have HRR := hide hrow
            have HP := hide hP
            by_cases hlt : n < 623
            · obtain ⟨m, rfl, hm⟩ := PB_index hP hlt
              obtain ⟨x0, x1⟩ := PB_word hP m (by omega)
              obtain ⟨y0, y1⟩ := PB_word hP (m + 1) (by omega)
              by_cases hm2 : m + 1 < 623
              · have c1 := hrow.cell m (by omega)
                have c2 := hrow.cell (m + 1) (by omega)
                have f2 := hrow.thaw (m + 1)
                clear hrow hP
                go_wp2
                go_region
                go_wp2
                go_roundw
                case rel =>
                  refine ⟨n + 1, m + 2, _, by omega, by go_num, by go_num, PB_step HP.out hlt hm2, ?_, (hgr2.setCell hge _).drew⟩
                  exact (HRR.out.set (m + 1) (by omega) _).drew
                case measure => simp [intOf]; omega
              · obtain rfl : m = 622 := by omega
                have c1 := hrow.cell 622 (by omega)
                have c2 := hrow.cell 623 (by omega)
                have c0 := hrow.cell 0 (by omega)
                have f2 := hrow.thaw 623
                have f0 := hrow.thaw 0
                clear hrow hP
                go_wp2
                go_region
                go_wp2
                go_region
                go_wp2
                go_roundw
                case rel =>
                  refine ⟨n + 1, 1, _, by omega, by go_num, by go_num, PB_wrap HP.out, ?_, ((hgr2.setCell hge _).drew.setCell hge _).drew⟩
                  exact (((HRR.out.set 623 (by omega) _).drew).set 0 (by omega) _).drew
                case measure => simp [intOf]; omega
            · obtain rfl : n = 623 := by omega
              have c0 := hrow.cell 0 (by omega)
              have f0 := hrow.thaw 0
              clear hrow hP
              go_wp2
              go_ret
              exact ⟨g, rfl, (HRR.out.set 0 (by omega) _).same (PB_end HP.out), hge, hgr2.setCell hge _⟩
end Go.Proofs.Qxb6618391a
