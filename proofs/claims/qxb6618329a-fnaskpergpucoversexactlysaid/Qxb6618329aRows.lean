/-
  No cell of these rows narrows 'for every input' (looked for: loops, veiled, ifaces, maps, wideKeys, modest, calm, conditions, laid).
  DERIVED. THE GIVEN ROWS OF THIS SEAT. 1 by the template 'for every input the law returns true; each argument reads behind the call as it read before'; 0 by the template 'total and deterministic' (their statements: Qxb6618329aTotals.lean).
  GIVEN WITH THE SEED: the statements are not yours to turn. If you find one false, say at which input.
  Laid BY PROGRAM, IN A SANDBOX (cutbox-rows.mjs): the forced cells as the released guide's own fill.sh prints them over the translation db67638d0645d1ce… (all of the seat's roots in one cut). By AI agents, Wed Nov 11 2026. No macro, syntax, notation, axiom, sorry.
-/
import Derived.Test.Qxb6618329aChecked
import GoSem.Claim
import GoSem.ClaimJoined
import GoSem.ClaimMapViews
import Derived.JoinedTies
import Derived.KernelRfl
namespace Go.Proofs.Qxb6618329a
/- THE CELL 'sum', in the pinned program and in every row, IS THE sha256 OF THE DUMP (.gsa) THAT Qxb6618329aProg.lean LOADS. Nothing in Lean hashes anything: it is a label: what it is worth is what the hold of that sum in a sandbox is worth. -/
noncomputable def Try.pinned : Pinned := { name := "qxb6618329a", sum := "db67638d0645d1cee558fa143f024d4eae772b7f882740aabde2d2d6143aa86a", checked := Try.checked }
namespace Rows
def none {H : Type} : Left H := { results := [], args := [] }

/-- 'zzlaws_plan_b1.FnAskPerGPUCoversExactly': WHATEVER THE INPUT: true; the input reads as it did. -/
def fnAskPerGPUCoversExactlySpec : ChangeSpec := { name := "fnAskPerGPUCoversExactly", fn := fun _ => fun
  | [d1, d2, d3, d4, d5, d6, d7] => { results := [.lit (.bool true)], args := [d1, d2, d3, d4, d5, d6, d7] }
  | _ => none }
def fnAskPerGPUCoversExactlyRow : OpenClaim := { program := "qxb6618329a", sum := "db67638d0645d1cee558fa143f024d4eae772b7f882740aabde2d2d6143aa86a", func := "example.com/tidewise/tidewise/zzlaws_plan_b1.FnAskPerGPUCoversExactly", spec := "fnAskPerGPUCoversExactly", unfollowed := true, recurses := true, apart := false }
def FnAskPerGPUCoversExactlySaid : Prop := fnAskPerGPUCoversExactlyRow.holds Try.pinned (OpenSpec.ofChange fnAskPerGPUCoversExactlySpec)

/-- ITS FALSE NEIGHBOUR: 'it returns false'. Refute it at one input. -/
def fnAskPerGPUCoversExactlyWrong : ChangeSpec := { name := "fnAskPerGPUCoversExactly", fn := fun _ => fun
  | [d1, d2, d3, d4, d5, d6, d7] => { results := [.lit (.bool false)], args := [d1, d2, d3, d4, d5, d6, d7] }
  | _ => none }
def FnAskPerGPUCoversExactlyWrongFalsely : Prop := fnAskPerGPUCoversExactlyRow.holds Try.pinned (OpenSpec.ofChange fnAskPerGPUCoversExactlyWrong)

end Rows
end Go.Proofs.Qxb6618329a
