/-
  No cell of these rows narrows 'for every input' (looked for: loops, veiled, ifaces, maps, wideKeys, modest, calm, conditions, laid).
  DERIVED. THE GIVEN ROWS OF THIS SEAT. 2 by the template 'for every input the law returns true; each argument reads behind the call as it read before'; 0 by the template 'total and deterministic' (their statements: Qxb6615632aModsTotals.lean).
  GIVEN WITH THE SEED: the statements are not yours to turn. If you find one false, say at which input.
  Laid BY PROGRAM, IN A SANDBOX (cutbox-rows.mjs): the forced cells as the released guide's own fill.sh prints them over the translation 8e1277ab5ffeaef7… (all of the seat's roots in one cut). By AI agents, Wed Nov 11 2026. No macro, syntax, notation, axiom, sorry.
-/
import Derived.Test.Qxb6615632aModsChecked
import GoSem.Claim
import GoSem.ClaimJoined
import GoSem.ClaimMapViews
import Derived.JoinedTies
import Derived.KernelRfl
namespace Go.Proofs.Qxb6615632aMods
/- THE CELL 'sum', in the pinned program and in every row, IS THE sha256 OF THE DUMP (.gsa) THAT Qxb6615632aModsProg.lean LOADS. Nothing in Lean hashes anything: it is a label: what it is worth is what the hold of that sum in a sandbox is worth. -/
noncomputable def Trym.pinned : Pinned := { name := "qxb6615632amods", sum := "8e1277ab5ffeaef7aad677589d07f9d4d1f9727a7323d3daf7be9f75381edf7e", checked := Trym.checked }
namespace Rows
def none {H : Type} : Left H := { results := [], args := [] }

/-- 'zzlaws_gateway_b1.FnHeldBytesAdditiveAtACut': WHATEVER THE INPUT: true; the input reads as it did. -/
def fnHeldBytesAdditiveAtACutSpec : ChangeSpec := { name := "fnHeldBytesAdditiveAtACut", fn := fun _ => fun
  | [d1, d2, d3, d4] => { results := [.lit (.bool true)], args := [d1, d2, d3, d4] }
  | _ => none }
def fnHeldBytesAdditiveAtACutRow : OpenClaim := { program := "qxb6615632amods", sum := "8e1277ab5ffeaef7aad677589d07f9d4d1f9727a7323d3daf7be9f75381edf7e", func := "example.com/urshanabi/urshanabi/zzlaws_gateway_b1.FnHeldBytesAdditiveAtACut", spec := "fnHeldBytesAdditiveAtACut", make := .lifted ["publicsums"], apart := false }
def FnHeldBytesAdditiveAtACutSaid : Prop := fnHeldBytesAdditiveAtACutRow.holds Trym.pinned (OpenSpec.ofChange fnHeldBytesAdditiveAtACutSpec)

/-- ITS FALSE NEIGHBOUR: 'it returns false'. Refute it at one input. -/
def fnHeldBytesAdditiveAtACutWrong : ChangeSpec := { name := "fnHeldBytesAdditiveAtACut", fn := fun _ => fun
  | [d1, d2, d3, d4] => { results := [.lit (.bool false)], args := [d1, d2, d3, d4] }
  | _ => none }
def FnHeldBytesAdditiveAtACutWrongFalsely : Prop := fnHeldBytesAdditiveAtACutRow.holds Trym.pinned (OpenSpec.ofChange fnHeldBytesAdditiveAtACutWrong)

/-- 'zzlaws_gateway_b1.FnLimitedByEitherLimit': WHATEVER THE INPUT: true; the input reads as it did. -/
def fnLimitedByEitherLimitSpec : ChangeSpec := { name := "fnLimitedByEitherLimit", fn := fun _ => fun
  | [d1, d2, d3, d4, d5] => { results := [.lit (.bool true)], args := [d1, d2, d3, d4, d5] }
  | _ => none }
def fnLimitedByEitherLimitRow : OpenClaim := { program := "qxb6615632amods", sum := "8e1277ab5ffeaef7aad677589d07f9d4d1f9727a7323d3daf7be9f75381edf7e", func := "example.com/urshanabi/urshanabi/zzlaws_gateway_b1.FnLimitedByEitherLimit", spec := "fnLimitedByEitherLimit", make := .lifted ["publicsums"], apart := false }
def FnLimitedByEitherLimitSaid : Prop := fnLimitedByEitherLimitRow.holds Trym.pinned (OpenSpec.ofChange fnLimitedByEitherLimitSpec)

/-- ITS FALSE NEIGHBOUR: 'it returns false'. Refute it at one input. -/
def fnLimitedByEitherLimitWrong : ChangeSpec := { name := "fnLimitedByEitherLimit", fn := fun _ => fun
  | [d1, d2, d3, d4, d5] => { results := [.lit (.bool false)], args := [d1, d2, d3, d4, d5] }
  | _ => none }
def FnLimitedByEitherLimitWrongFalsely : Prop := fnLimitedByEitherLimitRow.holds Trym.pinned (OpenSpec.ofChange fnLimitedByEitherLimitWrong)

end Rows
end Go.Proofs.Qxb6615632aMods
