/- The walks of mulWide, leMul and the closure of askPerGPU. -/
import Derived.Test.Qxb6618329aRows
import Derived.WalkKit
import Derived.ProofKit
import Derived.OpenShut
import Derived.WalkSpells
import Derived.Laws.MathBits
import Derived.Laws.Bits64b
import Derived.Test.Qxb6618329aPlain
namespace Go.Proofs.Qxb6618329a.fnAskPerGPUCoversExactly
open Go.ChangeShapes Go.WideShapes Go.ChangeAt Go.RowKit

theorem hide {p : Prop} (h : p) : Hid p := h

/-- H and L are the two words of x times y. -/
def Words (x y H L : Int) : Prop := 0 ≤ H ∧ 0 ≤ L ∧ L ≤ 18446744073709551615 ∧ x * y = H * 18446744073709551616 + L

set_option maxHeartbeats 400000 in
/-- mulWide: the product's two words. -/
theorem mul_any (x y : Int) (hx0 : 0 ≤ x) (hx : x ≤ 18446744073709551615) (hy0 : 0 ≤ y) (hy : y ≤ 18446744073709551615) (w : World) :
    Calls Try.prog 7 #[.int .u64 x, .int .u64 y] w fun e w' => ∃ H L : Int, e = .returned (.tuple #[.int .u64 H, .int .u64 L]) ∧ Words x y H L ∧ w' = w := by
  have ex := and_low32 x hx0 (by omega)
  have ey := and_low32 y hy0 (by omega)
  have et := fun n : Int => and_low32 (n % 18446744073709551616) (by omega) (by omega)
  have eh := mul64_arith x y hx0 (by omega) hy0 (by omega)
  have hp : 0 ≤ x * y := Int.mul_nonneg hx0 hy0
  have Hx := hide ex; have Hy := hide ey; have Ht := hide et; have Hh := hide eh
  clear ex ey et eh
  go_enter Try.func7, Try.ntmps7
  go_wp2
  simp only [IntKind.wrap_u64, Hx.out, Hy.out, Ht.out]
  rw [Hh.out]
  go_ret2
  exact ⟨_, _, rfl, ⟨by omega, by omega, by omega, by omega⟩, rfl⟩

theorem ret_bool {a b : Bool} (h : a = b) : Ending.returned (.bool a) = .returned (.bool b) := by rw [h]

/-- The exact product of a g that is not negative and an x. -/
theorem prod_nonneg {g x : Int} (hg : 1 ≤ g) (hx : 0 ≤ x) : 0 ≤ g * x := Int.mul_nonneg (by omega) hx
theorem prod_neg {g x : Int} (hg : 1 ≤ g) (hx : x < 0) : g * x < 0 := Int.mul_neg_of_pos_of_neg (by omega) hx

def leB (a g x : Int) : Bool := decide (a ≤ g * x)

set_option maxHeartbeats 400000 in
theorem le_pos (a g x : Int) (ha0 : -9223372036854775808 ≤ a) (ha : a ≤ 9223372036854775807) (hg0 : 1 ≤ g) (hg : g ≤ 9223372036854775807) (hx0 : 0 ≤ x) (hx : x ≤ 9223372036854775807) (w : World) :
    Calls Try.prog 5 #[.int .i64 a, .int .i64 g, .int .i64 x] w fun e w' => e = .returned (.bool (leB a g x)) ∧ w' = w := by
  have hp := prod_nonneg hg0 hx0
  go_enter Try.func5, Try.ntmps5
  go_wp2_with fail
  refine (mul_any _ _ (by omega) (by omega) (by omega) (by omega) _).mono ?_
  rintro e w1 ⟨H, L, rfl, hW, hw⟩
  subst hw
  have hH := hW.1
  have hL := hW.2.1
  have hL2 := hW.2.2.1
  by_cases c1 : a < 0
  · go_wp2
    go_ret
    refine ⟨ret_bool ?_, rfl⟩
    simp [leB]; omega
  · by_cases c2 : 0 < H
    · go_wp2
      go_ret
      refine ⟨ret_bool ?_, rfl⟩
      have := hW.2.2.2
      simp [leB]; omega
    · have c3 : decide (0 < H) = false := by simpa using c2
      go_wp2
      go_ret
      refine ⟨ret_bool ?_, rfl⟩
      have := hW.2.2.2
      simp [leB]; omega

set_option maxHeartbeats 400000 in
theorem le_neg (a g x : Int) (ha0 : -9223372036854775808 ≤ a) (ha : a ≤ 9223372036854775807) (hg0 : 1 ≤ g) (hg : g ≤ 9223372036854775807) (hx0 : -9223372036854775808 ≤ x) (hx : x < 0) (w : World) :
    Calls Try.prog 5 #[.int .i64 a, .int .i64 g, .int .i64 x] w fun e w' => e = .returned (.bool (leB a g x)) ∧ w' = w := by
  have hp := prod_neg hg0 hx
  have hm : g * -x = -(g * x) := Int.mul_neg g x
  have Hm : Hid (g * -x = -(g * x)) := hm
  have ex : IntKind.u64.wrap (-IntKind.u64.wrap x) = -x := by simp only [IntKind.wrap_u64]; omega
  clear hm
  by_cases c1 : 0 ≤ a
  · go_enter Try.func5, Try.ntmps5
    go_wp2_with fail
    refine (mul_any _ _ (by omega) (by omega) (by omega) (by omega) _).mono ?_
    rintro e w1 ⟨H, L, rfl, hW, hw⟩
    subst hw
    have hH := hW.1
    have hL := hW.2.1
    have hL2 := hW.2.2.1
    go_wp2
    go_ret
    refine ⟨ret_bool ?_, rfl⟩
    simp [leB]; omega
  · have ea : IntKind.u64.wrap (-IntKind.u64.wrap a) = -a := by simp only [IntKind.wrap_u64]; omega
    go_enter Try.func5, Try.ntmps5
    go_wp2_with fail
    refine (mul_any _ _ (by omega) (by omega) (by omega) (by omega) _).mono ?_
    rintro e w1 ⟨H, L, rfl, hW, hw⟩
    subst hw
    have hH := hW.1
    have hL := hW.2.1
    have hL2 := hW.2.2.1
    by_cases c2 : 0 < H
    · have c3 : (H == 0) = false := by simp; omega
      go_wp2
      go_ret
      refine ⟨ret_bool ?_, rfl⟩
      have := hW.2.2.2
      rw [Hm.out] at this
      simp [leB]; omega
    · have c3 : (H == 0) = true := by simp; omega
      go_wp2
      go_ret
      refine ⟨ret_bool ?_, rfl⟩
      have := hW.2.2.2
      rw [Hm.out] at this
      simp [leB]; omega

/-- leMul: a ≤ g * x, exactly. -/
theorem le_any (a g x : Int) (ha0 : -9223372036854775808 ≤ a) (ha : a ≤ 9223372036854775807) (hg0 : 1 ≤ g) (hg : g ≤ 9223372036854775807) (hx0 : -9223372036854775808 ≤ x) (hx : x ≤ 9223372036854775807) (w : World) :
    Calls Try.prog 5 #[.int .i64 a, .int .i64 g, .int .i64 x] w fun e w' => e = .returned (.bool (leB a g x)) ∧ w' = w := by
  by_cases h : 0 ≤ x
  · exact le_pos a g x ha0 ha hg0 hg h hx w
  · exact le_neg a g x ha0 ha hg0 hg hx0 (by omega) w

/-! ### THE CLOSURE 'up' -/
theorem up_any (a g : Int) (ha0 : -9223372036854775808 ≤ a) (ha : a ≤ 9223372036854775807) (hg : 1 ≤ g) (hg1 : g ≤ 9223372036854775807) (b : Nat) (w : World) (hc : w.cell? ⟨b, 0, none⟩ = some (.int .i64 g)) :
    Calls Try.prog 8 #[.int .i64 a, .pointer (some ⟨b, 0, none⟩)] w fun e w' => e = .returned (.int .i64 (Plain.up a g)) ∧ w' = w := by
  obtain ⟨b1, b2, b3⟩ := Plain.up_bd a g ha0 ha hg
  by_cases h : 0 < a.tmod g
  · have b4 := b3 h
    have hu : Plain.up a g = a.tdiv g + 1 := by simp [Plain.up, h]
    rw [hu]
    clear hu b3
    go_enter Try.func8, Try.ntmps8
    go_wp2
    go_ret
    exact ⟨rfl, rfl⟩
  · have hu : Plain.up a g = a.tdiv g := by simp [Plain.up, h]
    rw [hu]
    clear hu b3
    go_enter Try.func8, Try.ntmps8
    go_wp2
    go_ret
    exact ⟨rfl, rfl⟩
end Go.Proofs.Qxb6618329a.fnAskPerGPUCoversExactly
