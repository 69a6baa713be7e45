/-
  No cell of these rows narrows 'for every input' (looked for: loops, veiled, ifaces, maps, wideKeys, modest, calm, conditions, laid).
  DERIVED. THE GIVEN ROWS OF THIS SEAT. 1 by the template 'for every input the law returns true; each argument reads behind the call as it read before'; 0 by the template 'total and deterministic' (their statements: Qxb6614436aModsTotals.lean).
  GIVEN WITH THE SEED: the statements are not yours to turn. If you find one false, say at which input.
  Laid BY PROGRAM, IN A SANDBOX (cutbox-rows.mjs): the forced cells as the released guide's own fill.sh prints them over the translation 121f558c8043bee8… (all of the seat's roots in one cut). By AI agents, Wed Nov 11 2026. No macro, syntax, notation, axiom, sorry.
-/
import Derived.Test.Qxb6614436aModsChecked
import GoSem.Claim
import GoSem.ClaimJoined
import GoSem.ClaimMapViews
import Derived.JoinedTies
import Derived.KernelRfl
namespace Go.Proofs.Qxb6614436aMods
/- THE CELL 'sum', in the pinned program and in every row, IS THE sha256 OF THE DUMP (.gsa) THAT Qxb6614436aModsProg.lean LOADS. Nothing in Lean hashes anything: it is a label: what it is worth is what the hold of that sum in a sandbox is worth. -/
noncomputable def Trym.pinned : Pinned := { name := "qxb6614436amods", sum := "121f558c8043bee8949507c0b2bf394fc24c4700481de31c3ad3f60fc9a75960", checked := Trym.checked }
namespace Rows
def none {H : Type} : Left H := { results := [], args := [] }

/-- 'zzlaws_internal_protocol_b1.FnNoteSentKeepsEachReplicasLogInOrder': WHATEVER THE INPUT: true; the input reads as it did. -/
def fnNoteSentKeepsEachReplicasLogInOrderSpec : ChangeSpec := { name := "fnNoteSentKeepsEachReplicasLogInOrder", fn := fun _ => fun
  | [d] => { results := [.lit (.bool true)], args := [d] }
  | _ => none }
def fnNoteSentKeepsEachReplicasLogInOrderRow : OpenClaim := { program := "qxb6614436amods", sum := "121f558c8043bee8949507c0b2bf394fc24c4700481de31c3ad3f60fc9a75960", func := "example.com/evenkeel/evenkeel/zzlaws_internal_protocol_b1.FnNoteSentKeepsEachReplicasLogInOrder", spec := "fnNoteSentKeepsEachReplicasLogInOrder", make := .lifted ["publicsums"], apart := false }
def FnNoteSentKeepsEachReplicasLogInOrderSaid : Prop := fnNoteSentKeepsEachReplicasLogInOrderRow.holds Trym.pinned (OpenSpec.ofChange fnNoteSentKeepsEachReplicasLogInOrderSpec)

/-- ITS FALSE NEIGHBOUR: 'it returns false'. Refute it at one input. -/
def fnNoteSentKeepsEachReplicasLogInOrderWrong : ChangeSpec := { name := "fnNoteSentKeepsEachReplicasLogInOrder", fn := fun _ => fun
  | [d] => { results := [.lit (.bool false)], args := [d] }
  | _ => none }
def FnNoteSentKeepsEachReplicasLogInOrderWrongFalsely : Prop := fnNoteSentKeepsEachReplicasLogInOrderRow.holds Trym.pinned (OpenSpec.ofChange fnNoteSentKeepsEachReplicasLogInOrderWrong)

end Rows
end Go.Proofs.Qxb6614436aMods
