/- The law's own walk: each callee by its contract. -/
import Derived.Test.Qxb6618329aWalkB
import Derived.Deep.QuietTactic
import Derived.BigQuiet
namespace Go.Proofs.Qxb6618329a.fnAskPerGPUCoversExactly
open Go.ChangeShapes Go.WideShapes Go.ChangeAt Go.RowKit

theorem Hid.mk' {p : Prop} (h : p) : Hid p := h
theorem grown_drewN {W w' : World} (h : Grown W w') (n : Nat) : Grown W (w'.drewN n) := h
/-- leMul, said by the ask. -/
theorem le_up (a g x : Int) (ha : I64 a) (hg0 : 1 ≤ g) (hg : g ≤ 9223372036854775807) (hx : I64 x) (w : World) :
    Calls Try.prog 5 #[.int .i64 a, .int .i64 g, .int .i64 x] w fun e w' => e = .returned (.bool (decide (Plain.up a g ≤ x))) ∧ w' = w := by
  have e : leB a g x = decide (Plain.up a g ≤ x) := by
    rw [Bool.eq_iff_iff]
    simp [leB, Plain.up_le a g x hg0]
  rw [← e]
  exact le_any a g x ha.1 ha.2 hg0 hg hx.1 hx.2 w

set_option maxHeartbeats 800000 in
theorem law_none (a0 a1 a2 a3 a4 a5 a6 : Int) (h0 : I64 a0) (h1 : I64 a1) (h2 : I64 a2) (h3 : I64 a3) (h4 : I64 a4) (h5 : I64 a5) (h6 : I64 a6) (hc : a0 < 1) (w : World) :
    Calls Try.prog 3 #[.int .i64 a0, .int .i64 a1, .int .i64 a2, .int .i64 a3, .int .i64 a4, .int .i64 a5, .int .i64 a6] w fun e w' => e = .returned (.bool true) ∧ Grown w w' := by
  have eg : gp a0 = 1 := by simp [gp, hc]
  have H := fun wx => zz_any a0 a1 a2 a3 h0 h1 h2 h3 wx
  have H1 := fun wx => le_up a1 1 a4 h1 (by omega) (by omega) h4 wx
  have H2 := fun wx => le_up a2 1 a5 h2 (by omega) (by omega) h5 wx
  have H3 := fun wx => le_up a3 1 a6 h3 (by omega) (by omega) h6 wx
  rw [eg] at H
  clear eg
  generalize Plain.up a1 1 = u1 at *
  generalize Plain.up a2 1 = u2 at *
  generalize Plain.up a3 1 = u3 at *
  have HH := Hid.mk' H; clear H
  have HH1 := Hid.mk' H1; clear H1
  have HH2 := Hid.mk' H2; clear H2
  have HH3 := Hid.mk' H3; clear H3
  go_enter Try.func3, Try.ntmps3
  go_wp2_with fail
  refine (HH.out _).mono ?_
  rintro e w1 ⟨rfl, c1, c2, c3, c4, c5, hw⟩
  have hg : Grown w w1 := by
    rw [hw]
    repeat (first | exact Grown.refl _ | apply Grown.drew | apply Grown.alloc)
  clear hw
  go_wp2_with fail
  go_quiet (first | (go_at_call 5; refine Calls.quiet_of_same (HH1.out _)))
  go_wp2_with fail
  have k2 : ((w1.alloc (.cells #[.int .i64 1, .int .i64 u1, .int .i64 u2, .int .i64 u3] 23)).drewN nq).cell? ⟨w1.heap.size, 2, none⟩ = some (.int .i64 u2) := by simp [go_sem]
  have k3 : ((w1.alloc (.cells #[.int .i64 1, .int .i64 u1, .int .i64 u2, .int .i64 u3] 23)).drewN nq).cell? ⟨w1.heap.size, 3, none⟩ = some (.int .i64 u3) := by simp [go_sem]
  have hg2 : Grown w ((w1.alloc (.cells #[.int .i64 1, .int .i64 u1, .int .i64 u2, .int .i64 u3] 23)).drewN nq) := grown_drewN (hg.alloc _ _) nq
  generalize (w1.alloc (.cells #[.int .i64 1, .int .i64 u1, .int .i64 u2, .int .i64 u3] 23)).drewN nq = w2 at *
  go_quiet (first | (go_at_call 5; refine Calls.quiet_of_same (HH2.out _)))
  go_wp2_with fail
  have k4 : (w2.drewN nq).cell? ⟨w1.heap.size, 3, none⟩ = some (.int .i64 u3) := by simpa [go_sem] using k3
  have hg3 : Grown w (w2.drewN nq) := grown_drewN hg2 nq
  generalize w2.drewN nq = w3 at *
  go_quiet (first | (go_at_call 5; refine Calls.quiet_of_same (HH3.out _)))
  go_wp2
  go_ret
  exact ⟨rfl, grown_drewN hg3 _⟩

set_option maxHeartbeats 800000 in
theorem law_some (a0 a1 a2 a3 a4 a5 a6 : Int) (h0 : I64 a0) (h1 : I64 a1) (h2 : I64 a2) (h3 : I64 a3) (h4 : I64 a4) (h5 : I64 a5) (h6 : I64 a6) (hc : 1 ≤ a0) (w : World) :
    Calls Try.prog 3 #[.int .i64 a0, .int .i64 a1, .int .i64 a2, .int .i64 a3, .int .i64 a4, .int .i64 a5, .int .i64 a6] w fun e w' => e = .returned (.bool true) ∧ Grown w w' := by
  have eg : gp a0 = a0 := by simp [gp]; omega
  have H := fun wx => zz_any a0 a1 a2 a3 h0 h1 h2 h3 wx
  have H1 := fun wx => le_up a1 a0 a4 h1 hc h0.2 h4 wx
  have H2 := fun wx => le_up a2 a0 a5 h2 hc h0.2 h5 wx
  have H3 := fun wx => le_up a3 a0 a6 h3 hc h0.2 h6 wx
  rw [eg] at H
  clear eg
  generalize Plain.up a1 a0 = u1 at *
  generalize Plain.up a2 a0 = u2 at *
  generalize Plain.up a3 a0 = u3 at *
  have HH := Hid.mk' H; clear H
  have HH1 := Hid.mk' H1; clear H1
  have HH2 := Hid.mk' H2; clear H2
  have HH3 := Hid.mk' H3; clear H3
  go_enter Try.func3, Try.ntmps3
  go_wp2_with fail
  refine (HH.out _).mono ?_
  rintro e w1 ⟨rfl, c1, c2, c3, c4, c5, hw⟩
  have hg : Grown w w1 := by
    rw [hw]
    repeat (first | exact Grown.refl _ | apply Grown.drew | apply Grown.alloc)
  clear hw
  go_wp2_with fail
  go_quiet (first | (go_at_call 5; refine Calls.quiet_of_same (HH1.out _)))
  go_wp2_with fail
  have k2 : ((w1.alloc (.cells #[.int .i64 1, .int .i64 u1, .int .i64 u2, .int .i64 u3] 23)).drewN nq).cell? ⟨w1.heap.size, 2, none⟩ = some (.int .i64 u2) := by simp [go_sem]
  have k3 : ((w1.alloc (.cells #[.int .i64 1, .int .i64 u1, .int .i64 u2, .int .i64 u3] 23)).drewN nq).cell? ⟨w1.heap.size, 3, none⟩ = some (.int .i64 u3) := by simp [go_sem]
  have hg2 : Grown w ((w1.alloc (.cells #[.int .i64 1, .int .i64 u1, .int .i64 u2, .int .i64 u3] 23)).drewN nq) := grown_drewN (hg.alloc _ _) nq
  generalize (w1.alloc (.cells #[.int .i64 1, .int .i64 u1, .int .i64 u2, .int .i64 u3] 23)).drewN nq = w2 at *
  go_quiet (first | (go_at_call 5; refine Calls.quiet_of_same (HH2.out _)))
  go_wp2_with fail
  have k4 : (w2.drewN nq).cell? ⟨w1.heap.size, 3, none⟩ = some (.int .i64 u3) := by simpa [go_sem] using k3
  have hg3 : Grown w (w2.drewN nq) := grown_drewN hg2 nq
  generalize w2.drewN nq = w3 at *
  go_quiet (first | (go_at_call 5; refine Calls.quiet_of_same (HH3.out _)))
  go_wp2
  go_ret
  exact ⟨rfl, grown_drewN hg3 _⟩
end Go.Proofs.Qxb6618329a.fnAskPerGPUCoversExactly
