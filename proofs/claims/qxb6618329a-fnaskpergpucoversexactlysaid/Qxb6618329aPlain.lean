/- The plain law under the statement on askPerGPU: no Go in sight. -/
namespace Go.Proofs.Qxb6618329a.Plain

/-- Go's quotient rounded up, as askPerGPU reckons it. -/
def up (a g : Int) : Int := if 0 < a.tmod g then a.tdiv g + 1 else a.tdiv g

/-- THE LAW: the ask is at most x just where the amount is at most g times x. -/
theorem up_le (a g x : Int) (hg : 1 ≤ g) : up a g ≤ x ↔ a ≤ g * x := by
  have hd := Int.mul_tdiv_add_tmod a g        -- g * a.tdiv g + a.tmod g = a
  have hlt : a.tmod g < g := Int.tmod_lt_of_pos a (by omega)
  have hgt : -g < a.tmod g := by
    have := Int.lt_tmod_of_pos a (by omega : 0 < g)
    omega
  unfold up
  split
  · rename_i h
    constructor
    · intro hx
      have : g * (a.tdiv g + 1) ≤ g * x := Int.mul_le_mul_of_nonneg_left hx (by omega)
      rw [Int.mul_add] at this
      omega
    · intro hx
      have h1 : g * (a.tdiv g) < g * x := by omega
      have := Int.lt_of_mul_lt_mul_left h1 (by omega)
      omega
  · rename_i h
    constructor
    · intro hx
      have : g * (a.tdiv g) ≤ g * x := Int.mul_le_mul_of_nonneg_left hx (by omega)
      omega
    · intro hx
      have h1 : g * (a.tdiv g) < g * (x + 1) := by rw [Int.mul_add]; omega
      have := Int.lt_of_mul_lt_mul_left h1 (by omega)
      omega
/-- No step of it wraps, at a not negative amount. -/
theorem up_bd_pos (a g : Int) (h : 0 ≤ a) (hg : 1 ≤ g) : 0 ≤ a.tdiv g ∧ a.tdiv g ≤ a ∧ 0 ≤ a.tmod g ∧ (0 < a.tmod g → a.tdiv g < a) := by
  have hd := Int.mul_tdiv_add_tmod a g
  have h1 := Int.tdiv_nonneg h (by omega : 0 ≤ g)
  have h2 := Int.tmod_nonneg g h
  have h3 : 1 * a.tdiv g ≤ g * a.tdiv g := Int.mul_le_mul_of_nonneg_right hg h1
  refine ⟨h1, by omega, h2, fun _ => by omega⟩
theorem up_bd (a g : Int) (ha0 : -9223372036854775808 ≤ a) (ha : a ≤ 9223372036854775807) (hg : 1 ≤ g) :
    -9223372036854775808 ≤ a.tdiv g ∧ a.tdiv g ≤ 9223372036854775807 ∧ (0 < a.tmod g → a.tdiv g ≤ 9223372036854775806) := by
  rcases Int.le_total 0 a with h | h
  · obtain ⟨h1, h2, h3, h4⟩ := up_bd_pos a g h hg
    exact ⟨by omega, by omega, fun k => by have := h4 k; omega⟩
  · obtain ⟨h1, h2, h3, h4⟩ := up_bd_pos (-a) g (by omega) hg
    rw [Int.neg_tdiv] at h1 h2 h4
    rw [Int.neg_tmod] at h3 h4
    exact ⟨by omega, by omega, fun k => by omega⟩
end Go.Proofs.Qxb6618329a.Plain
