/- The walks of askPerGPU and of its wrapper: a struct in, a struct out, three calls of a closure in one statement. -/
import Derived.Test.Qxb6618329aWalkA
import Derived.Deep.RegionHeld3
namespace Go.Proofs.Qxb6618329a.fnAskPerGPUCoversExactly
open Go.ChangeShapes Go.WideShapes Go.ChangeAt Go.RowKit

/-- An int64. -/
def I64 (x : Int) : Prop := -9223372036854775808 ≤ x ∧ x ≤ 9223372036854775807

set_option maxHeartbeats 800000 in
theorem ask_none (p q r s : Int) (h : p < 1) (_hp : I64 p) (hq : I64 q) (hr : I64 r) (hs : I64 s) (w : World) :
    Calls Try.prog 6 #[.agg #[.int .i64 p, .int .i64 q, .int .i64 r, .int .i64 s]] w fun e w' => e = .returned (.agg #[.int .i64 1, .int .i64 (Plain.up q 1), .int .i64 (Plain.up r 1), .int .i64 (Plain.up s 1)]) ∧
      ∃ c1 c2 c3 : Array Value, w' = (((w.alloc (.cells c1 23)).alloc (.cells c2 23)).alloc (.cells c3 2)).drew := by
  obtain ⟨_, _⟩ := _hp; obtain ⟨hq0, hq⟩ := hq; obtain ⟨hr0, hr⟩ := hr; obtain ⟨hs0, hs⟩ := hs
  go_enter Try.func6, Try.ntmps6
  go_wp2
  go_region_held3 (fun w' => w'.cell? ⟨w.heap.size, 1, none⟩ = some (.int .i64 q) ∧ w'.cell? ⟨w.heap.size, 2, none⟩ = some (.int .i64 r) ∧ w'.cell? ⟨w.heap.size, 3, none⟩ = some (.int .i64 s) ∧ w'.cell? ⟨w.heap.size + 1 + 1, 0, none⟩ = some (.int .i64 1)) (simp [go_sem, World.cell?_alloc_past])
    (first
      | (go_at_call 8; refine (up_any _ 1 (by assumption) (by assumption) (by omega) (by omega) _ _ ?_).mono ?_; simp [go_sem]; rintro e w' ⟨rfl, rfl⟩))
  go_wp2
  exact bodyPost_ret (v := .agg #[.int .i64 1, .int .i64 (Plain.up q 1), .int .i64 (Plain.up r 1), .int .i64 (Plain.up s 1)]) (by simp [results, Try.results6, go_sem]) rfl ⟨rfl, _, _, _, rfl⟩

set_option maxHeartbeats 800000 in
theorem ask_some (p q r s : Int) (h : 1 ≤ p) (_hp : I64 p) (hq : I64 q) (hr : I64 r) (hs : I64 s) (w : World) :
    Calls Try.prog 6 #[.agg #[.int .i64 p, .int .i64 q, .int .i64 r, .int .i64 s]] w fun e w' => e = .returned (.agg #[.int .i64 1, .int .i64 (Plain.up q p), .int .i64 (Plain.up r p), .int .i64 (Plain.up s p)]) ∧
      ∃ c1 c2 c3 : Array Value, w' = (((w.alloc (.cells c1 23)).alloc (.cells c2 23)).alloc (.cells c3 2)).drew := by
  obtain ⟨_, _⟩ := _hp; obtain ⟨hq0, hq⟩ := hq; obtain ⟨hr0, hr⟩ := hr; obtain ⟨hs0, hs⟩ := hs
  go_enter Try.func6, Try.ntmps6
  go_wp2
  go_region_held3 (fun w' => w'.cell? ⟨w.heap.size, 1, none⟩ = some (.int .i64 q) ∧ w'.cell? ⟨w.heap.size, 2, none⟩ = some (.int .i64 r) ∧ w'.cell? ⟨w.heap.size, 3, none⟩ = some (.int .i64 s) ∧ w'.cell? ⟨w.heap.size + 1 + 1, 0, none⟩ = some (.int .i64 p)) (simp [go_sem, World.cell?_alloc_past])
    (first
      | (go_at_call 8; refine (up_any _ p (by assumption) (by assumption) (by omega) (by omega) _ _ ?_).mono ?_; simp [go_sem]; rintro e w' ⟨rfl, rfl⟩))
  go_wp2
  exact bodyPost_ret (v := .agg #[.int .i64 1, .int .i64 (Plain.up q p), .int .i64 (Plain.up r p), .int .i64 (Plain.up s p)]) (by simp [results, Try.results6, go_sem]) rfl ⟨rfl, _, _, _, rfl⟩

/-- How many GPUs count: at least one. -/
def gp (p : Int) : Int := if p < 1 then 1 else p

theorem ask_any (p q r s : Int) (hp : I64 p) (hq : I64 q) (hr : I64 r) (hs : I64 s) (w : World) :
    Calls Try.prog 6 #[.agg #[.int .i64 p, .int .i64 q, .int .i64 r, .int .i64 s]] w fun e w' => e = .returned (.agg #[.int .i64 1, .int .i64 (Plain.up q (gp p)), .int .i64 (Plain.up r (gp p)), .int .i64 (Plain.up s (gp p))]) ∧
      ∃ c1 c2 c3 : Array Value, w' = (((w.alloc (.cells c1 23)).alloc (.cells c2 23)).alloc (.cells c3 2)).drew := by
  by_cases h : p < 1
  · have e : gp p = 1 := by simp [gp, h]
    rw [e]
    exact ask_none p q r s h hp hq hr hs w
  · have e : gp p = p := by simp [gp, h]
    rw [e]
    exact ask_some p q r s (by omega) hp hq hr hs w

set_option maxHeartbeats 400000 in
/-- The wrapper hands its argument on, and the result back. -/
theorem zz_any (p q r s : Int) (hp : I64 p) (hq : I64 q) (hr : I64 r) (hs : I64 s) (w : World) :
    Calls Try.prog 4 #[.agg #[.int .i64 p, .int .i64 q, .int .i64 r, .int .i64 s]] w fun e w' => e = .returned (.agg #[.int .i64 1, .int .i64 (Plain.up q (gp p)), .int .i64 (Plain.up r (gp p)), .int .i64 (Plain.up s (gp p))]) ∧
      ∃ c1 c2 c3 c4 c5 : Array Value, w' = (((((w.alloc (.cells c1 23)).alloc (.cells c2 23)).alloc (.cells c3 23)).alloc (.cells c4 23)).alloc (.cells c5 2)).drew := by
  have H := fun wx => ask_any p q r s hp hq hr hs wx
  generalize Plain.up q (gp p) = q' at *
  generalize Plain.up r (gp p) = r' at *
  generalize Plain.up s (gp p) = s' at *
  have HH : Hid (∀ wx, Calls Try.prog 6 #[.agg #[.int .i64 p, .int .i64 q, .int .i64 r, .int .i64 s]] wx fun e w' => e = .returned (.agg #[.int .i64 1, .int .i64 q', .int .i64 r', .int .i64 s']) ∧
      ∃ c1 c2 c3 : Array Value, w' = (((wx.alloc (.cells c1 23)).alloc (.cells c2 23)).alloc (.cells c3 2)).drew) := H
  clear H
  go_enter Try.func4, Try.ntmps4
  go_wp2_with fail
  refine (HH.out _).mono ?_
  rintro e w1 ⟨rfl, c1, c2, c3, rfl⟩
  go_wp2
  exact bodyPost_ret (v := .agg #[.int .i64 1, .int .i64 q', .int .i64 r', .int .i64 s']) (by simp [results, Try.results4, go_sem]) rfl ⟨rfl, _, _, _, _, _, rfl⟩
end Go.Proofs.Qxb6618329a.fnAskPerGPUCoversExactly
