/- The plain law under the statement on newMT19937: the words that the two mixing passes make, and that each backward step undoes its forward step. No Go run in sight. -/
import Derived.Laws.Closers25b
import Derived.Laws.BitsAllLaws
namespace Go.Proofs.Qxb6618391a

/-- A 32-bit word. -/
def U32 (x : Int) : Prop := 0 ≤ x ∧ x ≤ 4294967295

theorem xor_word (x y : Int) : U32 (bits .xor .u32 x y) := bits_within .xor .u32 x y

/-- '^' undoes itself. -/
theorem xor_back (x p : Int) (hx : U32 x) : bits .xor .u32 (bits .xor .u32 x p) p = x := by
  obtain ⟨h0, h1⟩ := hx
  obtain ⟨n, rfl⟩ := Int.eq_ofNat_of_zero_le h0
  have hw : ∀ v : BitVec 32, IntKind.u32.wrap (v.toNat : Int) = (v.toNat : Int) := by
    intro v
    have := v.isLt
    simp [IntKind.wrap, IntKind.bits, IntKind.signed]
    omega
  show IntKind.u32.wrap ((BitVec.ofInt 32 (IntKind.u32.wrap ((BitVec.ofInt 32 (n : Int) ^^^ BitVec.ofInt 32 p).toNat : Int)) ^^^ BitVec.ofInt 32 p).toNat : Int) = _
  rw [hw, hw]
  have ho : ∀ v : BitVec 32, BitVec.ofInt 32 (v.toNat : Int) = v := by
    intro v
    rw [BitVec.ofInt_natCast, BitVec.ofNat_toNat, BitVec.setWidth_eq]
  rw [ho, BitVec.xor_assoc, BitVec.xor_self, BitVec.xor_zero]
  simp
  omega

/-- 'x ^ x>>30', as the walk spells it. -/
def mix (x : Int) : Int := bits .xor .u32 x (x / 1073741824)

/-- One step of the first pass, of the second pass. -/
def stepA (seed x y : Int) : Int := (bits .xor .u32 x (mix y * 1664525 % 4294967296) + seed) % 4294967296
def stepB (i x y : Int) : Int := (bits .xor .u32 x (mix y * 1566083941 % 4294967296) - i) % 4294967296
/-- One step back. -/
def backA (seed z y : Int) : Int := bits .xor .u32 ((z - seed) % 4294967296) (mix y * 1664525 % 4294967296)
def backB (i z y : Int) : Int := bits .xor .u32 ((z + i) % 4294967296) (mix y * 1566083941 % 4294967296)

theorem stepA_word (seed x y : Int) : U32 (stepA seed x y) := ⟨by unfold stepA; omega, by unfold stepA; omega⟩
theorem stepB_word (i x y : Int) : U32 (stepB i x y) := ⟨by unfold stepB; omega, by unfold stepB; omega⟩
theorem back_A (seed x y : Int) (hx : U32 x) : backA seed (stepA seed x y) y = x := by
  unfold backA stepA
  have h := xor_word x (mix y * 1664525 % 4294967296)
  have e := xor_back x (mix y * 1664525 % 4294967296) hx
  obtain ⟨h0, h1⟩ := h
  have k : ((bits .xor .u32 x (mix y * 1664525 % 4294967296) + seed) % 4294967296 - seed) % 4294967296 = bits .xor .u32 x (mix y * 1664525 % 4294967296) := by omega
  rw [k, e]
theorem back_B (i x y : Int) (hx : U32 x) : backB i (stepB i x y) y = x := by
  unfold backB stepB
  have h := xor_word x (mix y * 1566083941 % 4294967296)
  have e := xor_back x (mix y * 1566083941 % 4294967296) hx
  obtain ⟨h0, h1⟩ := h
  have k : ((bits .xor .u32 x (mix y * 1566083941 % 4294967296) - i) % 4294967296 + i) % 4294967296 = bits .xor .u32 x (mix y * 1566083941 % 4294967296) := by omega
  rw [k, e]

/-- init_genrand(19650218). -/
def ini : Nat → Int
  | 0 => 19650218
  | n + 1 => (1812433253 * mix (ini n) + (n + 1)) % 4294967296
/-- The words of the first pass. -/
def wA (seed : Int) : Nat → Int
  | 0 => 19650218
  | n + 1 => stepA seed (ini (n + 1)) (wA seed n)
/-- Word 1 behind the first pass's last step. -/
def wA1 (seed : Int) : Int := stepA seed (wA seed 1) (wA seed 623)
/-- The words of the second pass (from word 1 on). -/
def wB (seed : Int) : Nat → Int
  | 0 => 0
  | 1 => wA1 seed
  | n + 2 => stepB (n + 2) (wA seed (n + 2)) (wB seed (n + 1))
/-- Word 1 behind the second pass's last step. -/
def wB1 (seed : Int) : Int := stepB 1 (wA1 seed) (wB seed 623)

theorem ini_word (n : Nat) : U32 (ini n) := by
  cases n with
  | zero => exact ⟨by decide, by decide⟩
  | succ n => exact ⟨by unfold ini; omega, by unfold ini; omega⟩
theorem wA_word (seed : Int) (n : Nat) : U32 (wA seed n) := by
  cases n with
  | zero => exact ⟨by unfold wA; decide, by unfold wA; decide⟩
  | succ n => exact stepA_word _ _ _
theorem wA1_word (seed : Int) : U32 (wA1 seed) := stepA_word _ _ _
theorem wB_word (seed : Int) (n : Nat) : U32 (wB seed n) := by
  match n with
  | 0 => exact ⟨by unfold wB; decide, by unfold wB; decide⟩
  | 1 => exact wA1_word seed
  | n + 2 => exact stepB_word _ _ _
theorem wB1_word (seed : Int) : U32 (wB1 seed) := stepB_word _ _ _

/-- f with place k turned to v. -/
def upd (f : Nat → Int) (k : Nat) (v : Int) : Nat → Int := fun j => if j = k then v else f j
theorem upd_at (f : Nat → Int) (k : Nat) (v : Int) : upd f k v k = v := by simp [upd]
theorem upd_ne (f : Nat → Int) (k j : Nat) (v : Int) (h : j ≠ k) : upd f k v j = f j := by simp [upd, h]

/-- The array's words are those of g. -/
def Is (f g : Nat → Int) : Prop := ∀ j, j < 624 → f j = g j

/-! ### newMT19937, loop by loop: what the array holds -/
/-- Loop 1 with place k last filled. -/
def f1 (k : Nat) : Nat → Int := fun j => if j ≤ k then ini j else 0
theorem f1_start (f : Nat → Int) (h : f = fun _ => 0) : Is (upd f 0 19650218) (f1 0) := by
  intro j _
  by_cases e : j = 0
  · subst e; rfl
  · rw [upd_ne _ _ _ _ e, f1, if_neg (by omega), h]
theorem f1_step (k : Nat) : Is (upd (f1 k) (k + 1) ((1812433253 * mix (ini k) + (k + 1)) % 4294967296)) (f1 (k + 1)) := by
  intro j _
  by_cases e : j = k + 1
  · subst e; rw [upd_at, f1, if_pos (Nat.le_refl _)]; rfl
  · rw [upd_ne _ _ _ _ e, f1, f1]
    by_cases h : j ≤ k
    · rw [if_pos h, if_pos (by omega)]
    · rw [if_neg h, if_neg (by omega)]

/-- Loop 2 behind n rounds: the counter i, the words. -/
def PA (seed : Int) (n i : Nat) (f : Nat → Int) : Prop :=
  (n ≤ 622 ∧ i = n + 1 ∧ Is f fun j => if j ≤ n then wA seed j else ini j) ∨
  (n = 623 ∧ i = 1 ∧ Is f fun j => if j = 0 then wA seed 623 else wA seed j) ∨
  (n = 624 ∧ i = 2 ∧ Is f fun j => if j = 0 then wA seed 623 else if j = 1 then wA1 seed else wA seed j)

theorem PA_start (seed : Int) : PA seed 0 1 (f1 623) := by
  refine Or.inl ⟨by omega, rfl, ?_⟩
  intro j hj
  show (if j ≤ 623 then ini j else 0) = if j ≤ 0 then wA seed j else ini j
  rw [if_pos (by omega)]
  by_cases e : j = 0
  · subst e; rfl
  · rw [if_neg (by omega)]
theorem PA_word {seed : Int} {n i : Nat} {f : Nat → Int} (h : PA seed n i f) (j : Nat) (hj : j < 624) : U32 (f j) := by
  rcases h with ⟨_, _, h⟩ | ⟨_, _, h⟩ | ⟨_, _, h⟩ <;> rw [h j hj]
  · dsimp only; split
    · exact wA_word _ _
    · exact ini_word _
  · dsimp only; split <;> exact wA_word _ _
  · dsimp only; split
    · exact wA_word _ _
    · split
      · exact wA1_word _
      · exact wA_word _ _
theorem PA_index {seed : Int} {n i : Nat} {f : Nat → Int} (h : PA seed n i f) (hn : n < 624) : ∃ m, i = m + 1 ∧ m < 623 := by
  rcases h with ⟨h, rfl, _⟩ | ⟨h, rfl, _⟩ | ⟨h, rfl, _⟩
  · exact ⟨n, rfl, by omega⟩
  · exact ⟨0, rfl, by omega⟩
  · omega
theorem PA_step {seed : Int} {n m : Nat} {f : Nat → Int} (h : PA seed n (m + 1) f) (hn : n < 624) (hm : m + 1 < 623) :
    PA seed (n + 1) (m + 2) (upd f (m + 1) (stepA seed (f (m + 1)) (f m))) := by
  rcases h with ⟨h, e, hf⟩ | ⟨h, e, hf⟩ | ⟨h, e, hf⟩
  · obtain rfl : m = n := by omega
    refine Or.inl ⟨by omega, rfl, ?_⟩
    intro j hj
    have e1 := hf (m + 1) (by omega)
    have e0 := hf m (by omega)
    dsimp only at e1 e0 ⊢
    rw [if_neg (by omega)] at e1
    rw [if_pos (Nat.le_refl _)] at e0
    by_cases ej : j = m + 1
    · subst ej
      rw [upd_at, if_pos (Nat.le_refl _), e1, e0]
      rfl
    · rw [upd_ne _ _ _ _ ej, hf j hj]
      dsimp only
      by_cases hl : j ≤ m
      · rw [if_pos hl, if_pos (by omega)]
      · rw [if_neg hl, if_neg (by omega)]
  · obtain rfl : m = 0 := by omega
    refine Or.inr (Or.inr ⟨by omega, rfl, ?_⟩)
    intro j hj
    have e1 := hf 1 (by omega)
    have e0 := hf 0 (by omega)
    dsimp only at e1 e0 ⊢
    rw [if_neg (by omega)] at e1
    rw [if_pos rfl] at e0
    by_cases ej : j = 1
    · subst ej
      rw [upd_at, if_neg (by omega), if_pos rfl, e1, e0]
      rfl
    · rw [upd_ne _ _ _ _ ej, hf j hj]
      dsimp only
      by_cases h0 : j = 0
      · rw [if_pos h0, if_pos h0]
      · rw [if_neg h0, if_neg h0, if_neg ej]
  · omega
theorem PA_wrap {seed : Int} {n : Nat} {f : Nat → Int} (h : PA seed n 623 f) :
    PA seed (n + 1) 1 (upd (upd f 623 (stepA seed (f 623) (f 622))) 0 (stepA seed (f 623) (f 622))) := by
  rcases h with ⟨h, e, hf⟩ | ⟨h, e, hf⟩ | ⟨h, e, hf⟩
  · obtain rfl : n = 622 := by omega
    refine Or.inr (Or.inl ⟨rfl, rfl, ?_⟩)
    intro j hj
    have e1 := hf 623 (by omega)
    have e0 := hf 622 (by omega)
    dsimp only at e1 e0 ⊢
    rw [if_neg (by omega)] at e1
    rw [if_pos (Nat.le_refl _)] at e0
    have ev : stepA seed (f 623) (f 622) = wA seed 623 := by rw [e1, e0]; rfl
    rw [ev]
    by_cases h0 : j = 0
    · subst h0; rw [upd_at, if_pos rfl]
    · rw [upd_ne _ _ _ _ h0, if_neg h0]
      by_cases ej : j = 623
      · subst ej; rw [upd_at]
      · rw [upd_ne _ _ _ _ ej, hf j hj]
        dsimp only
        rw [if_pos (by omega)]
  · omega
  · omega

/-- Loop 3 behind n rounds. -/
def PB (seed : Int) (n i : Nat) (f : Nat → Int) : Prop :=
  (n ≤ 621 ∧ i = n + 2 ∧ Is f fun j => if j = 0 then wA seed 623 else if j ≤ n + 1 then wB seed j else wA seed j) ∨
  (n = 622 ∧ i = 1 ∧ Is f fun j => if j = 0 then wB seed 623 else wB seed j) ∨
  (n = 623 ∧ i = 2 ∧ Is f fun j => if j = 0 then wB seed 623 else if j = 1 then wB1 seed else wB seed j)

theorem PB_start {seed : Int} {i : Nat} {f : Nat → Int} (h : PA seed 624 i f) : PB seed 0 i f := by
  rcases h with ⟨h, e, hf⟩ | ⟨h, e, hf⟩ | ⟨h, e, hf⟩
  · omega
  · omega
  · refine Or.inl ⟨by omega, by omega, ?_⟩
    intro j hj
    rw [hf j hj]
    dsimp only
    by_cases h0 : j = 0
    · rw [if_pos h0, if_pos h0]
    · rw [if_neg h0, if_neg h0]
      by_cases h1 : j = 1
      · subst h1; rw [if_pos rfl, if_pos (by omega)]; rfl
      · rw [if_neg h1, if_neg (by omega)]
theorem PB_word {seed : Int} {n i : Nat} {f : Nat → Int} (h : PB seed n i f) (j : Nat) (hj : j < 624) : U32 (f j) := by
  rcases h with ⟨_, _, h⟩ | ⟨_, _, h⟩ | ⟨_, _, h⟩ <;> rw [h j hj]
  · dsimp only; split
    · exact wA_word _ _
    · split
      · exact wB_word _ _
      · exact wA_word _ _
  · dsimp only; split <;> exact wB_word _ _
  · dsimp only; split
    · exact wB_word _ _
    · split
      · exact wB1_word _
      · exact wB_word _ _
theorem PB_index {seed : Int} {n i : Nat} {f : Nat → Int} (h : PB seed n i f) (hn : n < 623) : ∃ m, i = m + 1 ∧ m < 623 := by
  rcases h with ⟨h, rfl, _⟩ | ⟨h, rfl, _⟩ | ⟨h, rfl, _⟩
  · exact ⟨n + 1, rfl, by omega⟩
  · exact ⟨0, rfl, by omega⟩
  · omega
theorem PB_step {seed : Int} {n m : Nat} {f : Nat → Int} (h : PB seed n (m + 1) f) (hn : n < 623) (hm : m + 1 < 623) :
    PB seed (n + 1) (m + 2) (upd f (m + 1) (stepB (m + 1) (f (m + 1)) (f m))) := by
  rcases h with ⟨h, e, hf⟩ | ⟨h, e, hf⟩ | ⟨h, e, hf⟩
  · obtain rfl : m = n + 1 := by omega
    refine Or.inl ⟨by omega, rfl, ?_⟩
    intro j hj
    have e1 := hf (n + 1 + 1) (by omega)
    have e0 := hf (n + 1) (by omega)
    dsimp only at e1 e0 ⊢
    rw [if_neg (by omega), if_neg (by omega)] at e1
    rw [if_neg (by omega), if_pos (Nat.le_refl _)] at e0
    by_cases ej : j = n + 1 + 1
    · subst ej
      rw [upd_at, if_neg (by omega), if_pos (Nat.le_refl _), e1, e0]
      show stepB (((n + 1 : Nat) : Int) + 1) _ _ = stepB ((n : Int) + 2) _ _
      rw [show ((n + 1 : Nat) : Int) + 1 = (n : Int) + 2 by omega]
    · rw [upd_ne _ _ _ _ ej, hf j hj]
      dsimp only
      by_cases h0 : j = 0
      · rw [if_pos h0, if_pos h0]
      · rw [if_neg h0, if_neg h0]
        by_cases hl : j ≤ n + 1
        · rw [if_pos hl, if_pos (by omega)]
        · rw [if_neg hl, if_neg (by omega)]
  · obtain rfl : m = 0 := by omega
    refine Or.inr (Or.inr ⟨by omega, rfl, ?_⟩)
    intro j hj
    have e1 := hf 1 (by omega)
    have e0 := hf 0 (by omega)
    dsimp only at e1 e0 ⊢
    rw [if_neg (by omega)] at e1
    rw [if_pos rfl] at e0
    by_cases ej : j = 1
    · subst ej
      rw [upd_at, if_neg (by omega), if_pos rfl, e1, e0]
      rfl
    · rw [upd_ne _ _ _ _ ej, hf j hj]
      dsimp only
      by_cases h0 : j = 0
      · rw [if_pos h0, if_pos h0]
      · rw [if_neg h0, if_neg h0, if_neg ej]
  · omega
theorem PB_wrap {seed : Int} {n : Nat} {f : Nat → Int} (h : PB seed n 623 f) :
    PB seed (n + 1) 1 (upd (upd f 623 (stepB 623 (f 623) (f 622))) 0 (stepB 623 (f 623) (f 622))) := by
  rcases h with ⟨h, e, hf⟩ | ⟨h, e, hf⟩ | ⟨h, e, hf⟩
  · obtain rfl : n = 621 := by omega
    refine Or.inr (Or.inl ⟨rfl, rfl, ?_⟩)
    intro j hj
    have e1 := hf 623 (by omega)
    have e0 := hf 622 (by omega)
    dsimp only at e1 e0 ⊢
    rw [if_neg (by omega), if_neg (by omega)] at e1
    rw [if_neg (by omega), if_pos (Nat.le_refl _)] at e0
    have ev : stepB 623 (f 623) (f 622) = wB seed 623 := by rw [e1, e0]; rfl
    rw [ev]
    by_cases h0 : j = 0
    · subst h0; rw [upd_at, if_pos rfl]
    · rw [upd_ne _ _ _ _ h0, if_neg h0]
      by_cases ej : j = 623
      · subst ej; rw [upd_at]
      · rw [upd_ne _ _ _ _ ej, hf j hj]
        dsimp only
        rw [if_neg h0, if_pos (by omega)]
  · omega
  · omega

/-- What newMT19937 hands back. -/
def out (seed : Int) : Nat → Int := fun j => if j = 0 then 2147483648 else if j = 1 then wB1 seed else wB seed j
theorem PB_end {seed : Int} {i : Nat} {f : Nat → Int} (h : PB seed 623 i f) : Is (upd f 0 2147483648) (out seed) := by
  rcases h with ⟨h, e, hf⟩ | ⟨h, e, hf⟩ | ⟨h, e, hf⟩
  · omega
  · omega
  · intro j hj
    by_cases h0 : j = 0
    · subst h0; rw [upd_at]; rfl
    · rw [upd_ne _ _ _ _ h0, hf j hj]
      dsimp only [out]
      rw [if_neg h0, if_neg h0]
theorem out_word (seed : Int) (j : Nat) : U32 (out seed j) := by
  unfold out
  split
  · exact ⟨by decide, by decide⟩
  · split
    · exact wB1_word _
    · exact wB_word _ _

/-! ### The law's way back -/
/-- The last word to the first; word 1's step of the second pass undone. -/
def g1 (seed : Int) : Nat → Int := upd (out seed) 0 (wB seed 623)
def g2 (seed : Int) : Nat → Int := upd (g1 seed) 1 (backB 1 (wB1 seed) (wB seed 623))
/-- The second pass undone down to place m + 2. -/
def fC (seed : Int) (m : Nat) : Nat → Int := fun j => if j = 0 then wB seed 623 else if j ≤ m + 1 then wB seed j else wA seed j
theorem fC_start (seed : Int) : Is (g2 seed) (fC seed 622) := by
  intro j hj
  unfold g2 g1 fC
  by_cases h1 : j = 1
  · subst h1
    rw [upd_at, if_neg (by omega), if_pos (by omega)]
    exact back_B 1 (wA1 seed) (wB seed 623) (wA1_word seed)
  · rw [upd_ne _ _ _ _ h1]
    by_cases h0 : j = 0
    · subst h0; rw [upd_at, if_pos rfl]
    · rw [upd_ne _ _ _ _ h0, if_neg h0, if_pos (by omega), out, if_neg h0, if_neg h1]
theorem fC_step (seed : Int) (m : Nat) (hm : 1 ≤ m) : Is (upd (fC seed m) (m + 1) (backB (m + 1) (wB seed (m + 1)) (wB seed m))) (fC seed (m - 1)) := by
  obtain ⟨p, rfl⟩ : ∃ p, m = p + 1 := ⟨m - 1, by omega⟩
  intro j hj
  rw [Nat.add_sub_cancel]
  by_cases e : j = p + 1 + 1
  · subst e
    rw [upd_at, fC, if_neg (by omega), if_neg (by omega)]
    have hb := back_B ((p : Int) + 2) (wA seed (p + 2)) (wB seed (p + 1)) (wA_word seed _)
    rw [show ((p + 1 : Nat) : Int) + 1 = (p : Int) + 2 by omega]
    exact hb
  · rw [upd_ne _ _ _ _ e, fC, fC]
    by_cases h0 : j = 0
    · rw [if_pos h0, if_pos h0]
    · rw [if_neg h0, if_neg h0]
      by_cases hl : j ≤ p + 1
      · rw [if_pos hl, if_pos (by omega)]
      · rw [if_neg (by omega), if_neg hl]
/-- The wrap and word 1's step of the first pass undone; word 0 as init_genrand has it. -/
def g3 (seed : Int) : Nat → Int := upd (fC seed 0) 0 (wA seed 623)
def g4 (seed : Int) : Nat → Int := upd (g3 seed) 1 (backA seed (wA1 seed) (wA seed 623))
def g5 (seed : Int) : Nat → Int := upd (g4 seed) 0 19650218
/-- The first pass undone down to place m + 1. -/
def fD (seed : Int) (m : Nat) : Nat → Int := fun j => if j ≤ m then wA seed j else ini j
theorem fD_start (seed : Int) : Is (g5 seed) (fD seed 623) := by
  intro j hj
  unfold g5 g4 g3
  rw [fD, if_pos (by omega)]
  by_cases h0 : j = 0
  · subst h0; rw [upd_at]; rfl
  · rw [upd_ne _ _ _ _ h0]
    by_cases h1 : j = 1
    · subst h1
      rw [upd_at]
      exact back_A seed (wA seed 1) (wA seed 623) (wA_word seed 1)
    · rw [upd_ne _ _ _ _ h1, upd_ne _ _ _ _ h0, fC, if_neg h0, if_neg (by omega)]
theorem fD_step (seed : Int) (p : Nat) : Is (upd (fD seed (p + 1)) (p + 1) (backA seed (wA seed (p + 1)) (wA seed p))) (fD seed p) := by
  intro j hj
  by_cases e : j = p + 1
  · subst e
    rw [upd_at, fD, if_neg (by omega)]
    exact back_A seed (ini (p + 1)) (wA seed p) (ini_word _)
  · rw [upd_ne _ _ _ _ e, fD, fD]
    by_cases hl : j ≤ p
    · rw [if_pos hl, if_pos (by omega)]
    · rw [if_neg hl, if_neg (by omega)]
theorem fD_end (seed : Int) : Is (fD seed 0) ini := by
  intro j hj
  rw [fD]
  by_cases h0 : j = 0
  · subst h0; rw [if_pos (Nat.le_refl _)]; rfl
  · rw [if_neg (by omega)]
end Go.Proofs.Qxb6618391a
