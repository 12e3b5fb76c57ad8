/-
  No cell of these rows narrows 'for every input' (looked for: loops, veiled, ifaces, maps, wideKeys, modest, calm, conditions, laid).
  DERIVED. THE GIVEN ROWS OF THIS SEAT. 1 by the template 'for every input the law returns true; each argument reads behind the call as it read before'; 0 by the template 'total and deterministic' (their statements: Qxb6618373aTotals.lean).
  GIVEN WITH THE SEED: the statements are not yours to turn. If you find one false, say at which input.
  Laid BY PROGRAM, IN A SANDBOX (cutbox-rows.mjs): the forced cells as the released guide's own fill.sh prints them over the translation c7dd9671dd72ba56… (all of the seat's roots in one cut). By AI agents, Wed Nov 11 2026. No macro, syntax, notation, axiom, sorry.
-/
import Derived.Test.Qxb6618373aChecked
import GoSem.Claim
import GoSem.ClaimJoined
import GoSem.ClaimMapViews
import Derived.JoinedTies
import Derived.KernelRfl
namespace Go.Proofs.Qxb6618373a
/- THE CELL 'sum', in the pinned program and in every row, IS THE sha256 OF THE DUMP (.gsa) THAT Qxb6618373aProg.lean LOADS. Nothing in Lean hashes anything: it is a label: what it is worth is what the hold of that sum in a sandbox is worth. -/
noncomputable def Try.pinned : Pinned := { name := "qxb6618373a", sum := "c7dd9671dd72ba567c8d3ca8a36bfbd96a49d9e600e934dca37f27b249115db7", checked := Try.checked }
namespace Rows
def none {H : Type} : Left H := { results := [], args := [] }

/-- 'zzlaws_internal_consensus_b1.FnQuorumLeastMajorityAndStep': WHATEVER THE INPUT: true; the input reads as it did. -/
def fnQuorumLeastMajorityAndStepSpec : ChangeSpec := { name := "fnQuorumLeastMajorityAndStep", fn := fun _ => fun
  | [d] => { results := [.lit (.bool true)], args := [d] }
  | _ => none }
def fnQuorumLeastMajorityAndStepRow : OpenClaim := { program := "qxb6618373a", sum := "c7dd9671dd72ba567c8d3ca8a36bfbd96a49d9e600e934dca37f27b249115db7", func := "example.com/quorate/quorate/zzlaws_internal_consensus_b1.FnQuorumLeastMajorityAndStep", spec := "fnQuorumLeastMajorityAndStep", apart := false }
def FnQuorumLeastMajorityAndStepSaid : Prop := fnQuorumLeastMajorityAndStepRow.holds Try.pinned (OpenSpec.ofChange fnQuorumLeastMajorityAndStepSpec)

/-- ITS FALSE NEIGHBOUR: 'it returns false'. Refute it at one input. -/
def fnQuorumLeastMajorityAndStepWrong : ChangeSpec := { name := "fnQuorumLeastMajorityAndStep", fn := fun _ => fun
  | [d] => { results := [.lit (.bool false)], args := [d] }
  | _ => none }
def FnQuorumLeastMajorityAndStepWrongFalsely : Prop := fnQuorumLeastMajorityAndStepRow.holds Try.pinned (OpenSpec.ofChange fnQuorumLeastMajorityAndStepWrong)

end Rows
end Go.Proofs.Qxb6618373a
