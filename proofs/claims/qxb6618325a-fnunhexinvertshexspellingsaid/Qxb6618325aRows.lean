/-
  No cell of these rows narrows 'for every input' (looked for: loops, veiled, ifaces, maps, wideKeys, modest, calm, conditions, laid).
  DERIVED. THE GIVEN ROWS OF THIS SEAT. 1 by the template 'for every input the law returns true; each argument reads behind the call as it read before'; 0 by the template 'total and deterministic' (their statements: Qxb6618325aTotals.lean).
  GIVEN WITH THE SEED: the statements are not yours to turn. If you find one false, say at which input.
  Laid BY PROGRAM, IN A SANDBOX (cutbox-rows.mjs): the forced cells as the released guide's own fill.sh prints them over the translation 7e7a2601caf5ae37… (all of the seat's roots in one cut). By AI agents, Wed Nov 11 2026. No macro, syntax, notation, axiom, sorry.
-/
import Derived.Test.Qxb6618325aChecked
import GoSem.Claim
import GoSem.ClaimJoined
import GoSem.ClaimMapViews
import Derived.JoinedTies
import Derived.KernelRfl
namespace Go.Proofs.Qxb6618325a
/- THE CELL 'sum', in the pinned program and in every row, IS THE sha256 OF THE DUMP (.gsa) THAT Qxb6618325aProg.lean LOADS. Nothing in Lean hashes anything: it is a label: what it is worth is what the hold of that sum in a sandbox is worth. -/
noncomputable def Try.pinned : Pinned := { name := "qxb6618325a", sum := "7e7a2601caf5ae37793984f31ee0c72885e82b4d55f4be1c1f4608b1536ef03f", checked := Try.checked }
namespace Rows
def none {H : Type} : Left H := { results := [], args := [] }

/-- 'zzlaws_root_b1.FnUnhexInvertsHexSpelling': WHATEVER THE INPUT: true; the input reads as it did. -/
def fnUnhexInvertsHexSpellingSpec : ChangeSpec := { name := "fnUnhexInvertsHexSpelling", fn := fun _ => fun
  | [d] => { results := [.lit (.bool true)], args := [d] }
  | _ => none }
def fnUnhexInvertsHexSpellingRow : OpenClaim := { program := "qxb6618325a", sum := "7e7a2601caf5ae37793984f31ee0c72885e82b4d55f4be1c1f4608b1536ef03f", func := "example.com/dialex/dialex/zzlaws_root_b1.FnUnhexInvertsHexSpelling", spec := "fnUnhexInvertsHexSpelling", apart := false }
def FnUnhexInvertsHexSpellingSaid : Prop := fnUnhexInvertsHexSpellingRow.holds Try.pinned (OpenSpec.ofChange fnUnhexInvertsHexSpellingSpec)

/-- ITS FALSE NEIGHBOUR: 'it returns false'. Refute it at one input. -/
def fnUnhexInvertsHexSpellingWrong : ChangeSpec := { name := "fnUnhexInvertsHexSpelling", fn := fun _ => fun
  | [d] => { results := [.lit (.bool false)], args := [d] }
  | _ => none }
def FnUnhexInvertsHexSpellingWrongFalsely : Prop := fnUnhexInvertsHexSpellingRow.holds Try.pinned (OpenSpec.ofChange fnUnhexInvertsHexSpellingWrong)

end Rows
end Go.Proofs.Qxb6618325a
