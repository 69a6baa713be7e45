/-
  No cell of these rows narrows 'for every input' (looked for: loops, veiled, ifaces, maps, wideKeys, modest, calm, conditions, laid).
  DERIVED. THE GIVEN ROWS OF THIS SEAT. 1 by the template 'for every input the law returns true; each argument reads behind the call as it read before'; 0 by the template 'total and deterministic' (their statements: Qxb6614645aModsTotals.lean).
  GIVEN WITH THE SEED: the statements are not yours to turn. If you find one false, say at which input.
  Laid BY PROGRAM, IN A SANDBOX (cutbox-rows.mjs): the forced cells as the released guide's own fill.sh prints them over the translation 41f4e18614b28300… (all of the seat's roots in one cut). By AI agents, Wed Nov 11 2026. No macro, syntax, notation, axiom, sorry.
-/
import Derived.Test.Qxb6614645aModsChecked
import GoSem.Claim
import GoSem.ClaimJoined
import GoSem.ClaimMapViews
import Derived.JoinedTies
import Derived.KernelRfl
namespace Go.Proofs.Qxb6614645aMods
/- THE CELL 'sum', in the pinned program and in every row, IS THE sha256 OF THE DUMP (.gsa) THAT Qxb6614645aModsProg.lean LOADS. Nothing in Lean hashes anything: it is a label: what it is worth is what the hold of that sum in a sandbox is worth. -/
noncomputable def Trym.pinned : Pinned := { name := "qxb6614645amods", sum := "41f4e18614b2830027bef46914f5a7664ae84a21f23795272d86eb7909633a1b", checked := Trym.checked }
namespace Rows
def none {H : Type} : Left H := { results := [], args := [] }

/-- 'zzlaws_root_b1.FnFindBodyPaddedIsMaxSilentLong': WHATEVER THE INPUT: true; the input reads as it did. -/
def fnFindBodyPaddedIsMaxSilentLongSpec : ChangeSpec := { name := "fnFindBodyPaddedIsMaxSilentLong", fn := fun _ => fun
  | [d] => { results := [.lit (.bool true)], args := [d] }
  | _ => none }
def fnFindBodyPaddedIsMaxSilentLongRow : OpenClaim := { program := "qxb6614645amods", sum := "41f4e18614b2830027bef46914f5a7664ae84a21f23795272d86eb7909633a1b", func := "example.com/xorweave/xorweave/zzlaws_root_b1.FnFindBodyPaddedIsMaxSilentLong", spec := "fnFindBodyPaddedIsMaxSilentLong", make := .lifted ["publicsums"], apart := false }
def FnFindBodyPaddedIsMaxSilentLongSaid : Prop := fnFindBodyPaddedIsMaxSilentLongRow.holds Trym.pinned (OpenSpec.ofChange fnFindBodyPaddedIsMaxSilentLongSpec)

/-- ITS FALSE NEIGHBOUR: 'it returns false'. Refute it at one input. -/
def fnFindBodyPaddedIsMaxSilentLongWrong : ChangeSpec := { name := "fnFindBodyPaddedIsMaxSilentLong", fn := fun _ => fun
  | [d] => { results := [.lit (.bool false)], args := [d] }
  | _ => none }
def FnFindBodyPaddedIsMaxSilentLongWrongFalsely : Prop := fnFindBodyPaddedIsMaxSilentLongRow.holds Trym.pinned (OpenSpec.ofChange fnFindBodyPaddedIsMaxSilentLongWrong)

end Rows
end Go.Proofs.Qxb6614645aMods
