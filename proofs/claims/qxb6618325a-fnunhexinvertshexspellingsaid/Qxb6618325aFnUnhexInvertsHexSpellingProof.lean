/-
  The proof of the given statement: the walk is the prover's; the frame around it was laid by the kit's shell tool.
-/
import Derived.Test.Qxb6618325aRows
import Derived.WalkKit
import Derived.ProofKit
import Derived.OpenShut
import Derived.ShutString
import Derived.WalkSpells
namespace Go.Proofs.Qxb6618325a.fnUnhexInvertsHexSpelling
open Go.ChangeShapes Go.WideShapes Go.ChangeAt Go.RowKit
open Go.ChangeMaps (open_string shut_string)
set_option linter.unusedVariables false      -- a walk need not use every 'w<i>' (that an integer argument fits its kind)

theorem own : ownKnob Try.prog.godebug = none := by kernel_rfl

/-- The lower-case spelling of digit k. -/
def low (k : Nat) : Int := if k < 10 then 48 + k else 87 + k
/-- The upper-case spelling of digit k. -/
def upp (k : Nat) : Int := if k < 10 then 48 + k else 55 + k

theorem low_at (k : Nat) (h : k < 16) : (((⟨#[48, 49, 50, 51, 52, 53, 54, 55, 56, 57, 97, 98, 99, 100, 101, 102]⟩ : ByteArray)[k]'h).toNat : Int) = low k := by
  have : ∀ j : Fin 16, (((⟨#[48, 49, 50, 51, 52, 53, 54, 55, 56, 57, 97, 98, 99, 100, 101, 102]⟩ : ByteArray)[j.1]'j.2).toNat : Int) = low j.1 := by decide
  exact this ⟨k, h⟩
theorem upp_at (k : Nat) (h : k < 16) : (((⟨#[48, 49, 50, 51, 52, 53, 54, 55, 56, 57, 65, 66, 67, 68, 69, 70]⟩ : ByteArray)[k]'h).toNat : Int) = upp k := by
  have : ∀ j : Fin 16, (((⟨#[48, 49, 50, 51, 52, 53, 54, 55, 56, 57, 65, 66, 67, 68, 69, 70]⟩ : ByteArray)[j.1]'j.2).toNat : Int) = upp j.1 := by decide
  exact this ⟨k, h⟩

/-- What the search holds: nothing found, or a digit that c spells. -/
def Found (c m : Int) : Prop := m = -1 ∨ ∃ j : Nat, j < 16 ∧ m = j ∧ (c = low j ∨ c = upp j)

theorem or_low (j : Nat) (h0 : 10 ≤ j) (h : j < 16) : bits .or .u8 (87 + (j : Int)) 32 = 87 + j := by
  have : ∀ i : Fin 16, 10 ≤ i.1 → bits .or .u8 (87 + (i.1 : Int)) 32 = 87 + (i.1 : Int) := by decide
  exact this ⟨j, h⟩ h0
theorem or_upp (j : Nat) (h0 : 10 ≤ j) (h : j < 16) : bits .or .u8 (55 + (j : Int)) 32 = 87 + j := by
  have : ∀ i : Fin 16, 10 ≤ i.1 → bits .or .u8 (55 + (i.1 : Int)) 32 = 87 + (i.1 : Int) := by decide
  exact this ⟨j, h⟩ h0
theorem ret_int {k : IntKind} {a b : Int} (h : a = b) : Ending.returned (.int k a) = .returned (.int k b) := by rw [h]

theorem hide {p : Prop} (h : p) : Hid p := h

/-- 'unhex' through its wrapper: a digit's spelling gives the digit. -/
theorem unhex_dig (c : Int) (j : Nat) (hj : j < 16) (hs : c = low j ∨ c = upp j) (w : World) :
    Calls Try.prog 4 #[.int .u8 c] w fun e w' => e = .returned (.int .u8 j) ∧ w' = w := by
  by_cases h10 : j < 10
  · have hc : c = 48 + (j : Int) := by rcases hs with h | h <;> simpa [low, upp, h10] using h
    subst hc
    clear hs
    go_enter Try.func4, Try.ntmps4
    go_wp2
    go_ret
    exact ⟨ret_int (by omega), rfl⟩
  · rcases hs with h | h
    · have hc : c = 87 + (j : Int) := by simpa [low, h10] using h
      subst hc
      clear h
      have ho := or_low j (by omega) hj
      go_enter Try.func4, Try.ntmps4
      go_wp2
      go_ret
      exact ⟨ret_int (by omega), rfl⟩
    · have hc : c = 55 + (j : Int) := by simpa [upp, h10] using h
      subst hc
      clear h
      have ho := or_upp j (by omega) hj
      go_enter Try.func4, Try.ntmps4
      go_wp2
      go_ret
      exact ⟨ret_int (by omega), rfl⟩

theorem walk (a0 : Int) (w0 : (Lit.int .u8 a0).wf = true) (w : World) :
    Calls Try.prog 3 #[.int .u8 a0] w fun e w' => e = .returned (.bool true) ∧ Grown w w' := by
  obtain ⟨l0, u0⟩ := bounds_u8 w0
  go_enter Try.func3, Try.ntmps3
  go_wp2
  go_loop [3, 4] (fun v i => ∃ k : Nat, ∃ m : Int, k ≤ 16 ∧ i = .int .i64 k ∧ v = .int .i64 m ∧ Found a0 m) (fun _ i => 16 - (intOf i).toNat)
  case atStart => exact ⟨0, -1, by omega, rfl, rfl, Or.inl rfl⟩
  case round =>
    obtain ⟨k, m, hk, rfl, rfl, hF⟩ := hrel
    by_cases hlt : k < 16
    · have e1 := low_at k hlt
      have e2 := upp_at k hlt
      have F1 : low k = a0 ∨ upp k = a0 → Found a0 k := fun h => Or.inr ⟨k, hlt, rfl, h.elim (fun h => Or.inl h.symm) (fun h => Or.inr h.symm)⟩
      by_cases c1 : low k = a0
      · have F2 := F1 (Or.inl c1)
        clear F1
        have b1 : (low k == a0) = true := by simpa using c1
        clear c1
        go_wp2
        go_round
        case rel => exact ⟨k + 1, _, by omega, by go_num, rfl, F2⟩
        case measure => simp [intOf]; omega
      · by_cases c2 : upp k = a0
        · have F2 := F1 (Or.inr c2)
          clear F1
          have b1 : (low k == a0) = false := by simpa using c1
          have b2 : (upp k == a0) = true := by simpa using c2
          clear c1 c2
          go_wp2
          go_round
          case rel => exact ⟨k + 1, _, by omega, by go_num, rfl, F2⟩
          case measure => simp [intOf]; omega
        · clear F1
          have b1 : (low k == a0) = false := by simpa using c1
          have b2 : (upp k == a0) = false := by simpa using c2
          clear c1 c2
          go_wp2
          go_round
          case rel => exact ⟨k + 1, _, by omega, by go_num, rfl, hF⟩
          case measure => simp [intOf]; omega
    · rcases hF with rfl | ⟨j, hj, rfl, hs⟩
      · go_wp2
        go_ret
        exact ⟨rfl, by repeat (first | exact Grown.refl _ | apply Grown.drew | apply Grown.alloc)⟩
      · have e1 := low_at j hj
        have e2 := upp_at j hj
        have H0 : Hid (∀ wx, Calls Try.prog 4 #[.int .u8 a0] wx fun e w' => e = .returned (.int .u8 j) ∧ w' = wx) := fun wx => unhex_dig a0 j hj hs wx
        have HL : Hid (∀ wx, Calls Try.prog 4 #[.int .u8 (low j)] wx fun e w' => e = .returned (.int .u8 j) ∧ w' = wx) := fun wx => unhex_dig _ j hj (Or.inl rfl) wx
        have HU : Hid (∀ wx, Calls Try.prog 4 #[.int .u8 (upp j)] wx fun e w' => e = .returned (.int .u8 j) ∧ w' = wx) := fun wx => unhex_dig _ j hj (Or.inr rfl) wx
        by_cases c1 : low j = a0
        · have b1 : (low j == a0) = true := by simpa using c1
          clear c1 hs
          go_wp2_with fail
          refine (H0.out _).mono ?_
          rintro e w1 ⟨rfl, hw⟩
          subst hw
          go_wp2_with fail
          refine (HU.out _).mono ?_
          rintro e w2 ⟨rfl, hw⟩
          subst hw
          go_wp2
          go_ret
          exact ⟨rfl, by repeat (first | exact Grown.refl _ | apply Grown.drew | apply Grown.alloc)⟩
        · have b1 : (low j == a0) = false := by simpa using c1
          clear c1 hs
          go_wp2_with fail
          refine (H0.out _).mono ?_
          rintro e w1 ⟨rfl, hw⟩
          subst hw
          go_wp2_with fail
          refine (HL.out _).mono ?_
          rintro e w2 ⟨rfl, hw⟩
          subst hw
          go_wp2
          go_ret
          exact ⟨rfl, by repeat (first | exact Grown.refl _ | apply Grown.drew | apply Grown.alloc)⟩

/-! ### THE ROW's STEP: WRITTEN OUT: LEAVE IT -/
set_option maxRecDepth 100000 in
theorem lifted (os : Os) (started : os.Started) (H : Type) (enc : TypeId × Value → H) :
    ReturnsInHanded {} Try.checked os 3 .any (Rows.fnUnhexInvertsHexSpellingSpec.pre6 enc Try.prog Try.f3 Rows.fnUnhexInvertsHexSpellingRow.domain false) (Rows.fnUnhexInvertsHexSpellingSpec.post enc Try.prog Try.f3 false true false false) := by
  refine returnsInHanded_of_change (C := Try.checked) own started (by kernel_rfl) Try.func3
    (ChangeSpec.witness6 (enc := enc) (C := Try.checked) false ⟨#[], #[.int .u8 0], []⟩ 8 (by kernel_rfl) (by kernel_rfl) (by kernel_rfl) (by kernel_rfl)) ?_
  intro W base args ds gs before hval0 hW hcnd _
  have hval : ∀ (j : Nat) t v, Try.f3.params[j]? = some t → args[j]? = some v → Value.okWide Try.prog W .any base t v := hval0
  have hW' := hW
  obtain ⟨p, q, hA0, hV, rfl, hfz, hnd⟩ := hW
  have hA : DataW.TrodAll enc Try.prog W 0 (fun _ => true) true Try.f3.params.toList args.toList ds p := hA0
  rw [Try.params3] at hA hval
  obtain ⟨v0, vs0, d0, ds0, p0, q0, hargs, rfl, rfl, h0, r0⟩ := trodAll_cons hA
  obtain ⟨rfl, rfl, rfl⟩ := trodAll_nil r0
  obtain rfl : args = #[v0] := by cases args; simp_all
  obtain ⟨rfl, rfl⟩ := trodVars_none hV
  obtain ⟨a0, rfl, rfl, rfl, w0⟩ := open_int Try.underlying5 (hval 0 5 v0 rfl rfl) h0
  clear hA0 hval0
  simp only [List.append_nil] at hW'
  refine (walk a0 w0 W).mono fun e W' ⟨he, hg⟩ => ?_
  subst he
  exact ⟨_, rfl, post_of_same (pa := []) (pv := []) hW' (fun _ _ _ => (trodAll_cons_mk (shut_bool Try.underlying4 _) trodAll_mk0)) (fun sp _ => (trodAll_cons_mk (shut_int Try.underlying5 w0) trodAll_mk0)) (fun _ _ => rfl) rfl
    (hg.frame _) hg.2.1 (ok_one (by kernel_rfl) rfl (okWide_bool_mk Try.underlying4 _))⟩

theorem over : Rows.fnUnhexInvertsHexSpellingRow.holds Try.pinned (OpenSpec.ofChange Rows.fnUnhexInvertsHexSpellingSpec) :=
  OpenClaim.holds_of_wide 3 Try.f3 rfl rfl rfl rfl rfl rfl rfl ⟨rfl, rfl, rfl, rfl, rfl⟩ rfl rfl rfl rfl rfl (by kernel_rfl) Try.func3 (by kernel_rfl)
    (of_decide_eq_true (by kernel_rfl)) (by unfold Func.isWrapper; first | (rw [if_pos (by decide +kernel)]; kernel_rfl) | (rw [if_neg (by decide +kernel)]; exact ⟨rfl, rfl⟩))
    (fun os started H enc _ => lifted os started H enc)

/-- ████ THE STATEMENT ████ -/
theorem proved : Rows.FnUnhexInvertsHexSpellingSaid :=
  over
end Go.Proofs.Qxb6618325a.fnUnhexInvertsHexSpelling
