/-
  No cell of these rows narrows 'for every input' (looked for: loops, veiled, ifaces, maps, wideKeys, modest, calm, conditions, laid).
  DERIVED. THE GIVEN ROWS OF THIS SEAT. 1 by the template 'for every input the law returns true; each argument reads behind the call as it read before'; 0 by the template 'total and deterministic' (their statements: Qxb6618391aTotals.lean).
  GIVEN WITH THE SEED: the statements are not yours to turn. If you find one false, say at which input.
  Laid BY PROGRAM, IN A SANDBOX (cutbox-rows.mjs): the forced cells as the released guide's own fill.sh prints them over the translation 896fd6018dd0cf45… (all of the seat's roots in one cut). By AI agents, Wed Nov 11 2026. No macro, syntax, notation, axiom, sorry.
-/
import Derived.Test.Qxb6618391aChecked
import GoSem.Claim
import GoSem.ClaimJoined
import GoSem.ClaimMapViews
import Derived.JoinedTies
import Derived.KernelRfl
namespace Go.Proofs.Qxb6618391a
/- THE CELL 'sum', in the pinned program and in every row, IS THE sha256 OF THE DUMP (.gsa) THAT Qxb6618391aProg.lean LOADS. Nothing in Lean hashes anything: it is a label: what it is worth is what the hold of that sum in a sandbox is worth. -/
noncomputable def Try.pinned : Pinned := { name := "qxb6618391a", sum := "896fd6018dd0cf45b345fa04fc70bc3cfbbb5d8cc99a23c82a1d129bc494d67a", checked := Try.checked }
namespace Rows
def none {H : Type} : Left H := { results := [], args := [] }

/-- 'zzlaws_internal_fixture_b1.FnNewMT19937UnwindsToInitGenrand': WHATEVER THE INPUT: true; the input reads as it did. -/
def fnNewMT19937UnwindsToInitGenrandSpec : ChangeSpec := { name := "fnNewMT19937UnwindsToInitGenrand", fn := fun _ => fun
  | [d] => { results := [.lit (.bool true)], args := [d] }
  | _ => none }
def fnNewMT19937UnwindsToInitGenrandRow : OpenClaim := { program := "qxb6618391a", sum := "896fd6018dd0cf45b345fa04fc70bc3cfbbb5d8cc99a23c82a1d129bc494d67a", func := "example.com/cairnpack/cairnpack/zzlaws_internal_fixture_b1.FnNewMT19937UnwindsToInitGenrand", spec := "fnNewMT19937UnwindsToInitGenrand", apart := false }
def FnNewMT19937UnwindsToInitGenrandSaid : Prop := fnNewMT19937UnwindsToInitGenrandRow.holds Try.pinned (OpenSpec.ofChange fnNewMT19937UnwindsToInitGenrandSpec)

/-- ITS FALSE NEIGHBOUR: 'it returns false'. Refute it at one input. -/
def fnNewMT19937UnwindsToInitGenrandWrong : ChangeSpec := { name := "fnNewMT19937UnwindsToInitGenrand", fn := fun _ => fun
  | [d] => { results := [.lit (.bool false)], args := [d] }
  | _ => none }
def FnNewMT19937UnwindsToInitGenrandWrongFalsely : Prop := fnNewMT19937UnwindsToInitGenrandRow.holds Try.pinned (OpenSpec.ofChange fnNewMT19937UnwindsToInitGenrandWrong)

end Rows
end Go.Proofs.Qxb6618391a
