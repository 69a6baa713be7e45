/-
  No cell of these rows narrows 'for every input' (looked for: loops, veiled, ifaces, maps, wideKeys, modest, calm, conditions, laid).
  DERIVED. THE GIVEN ROWS OF THIS SEAT. 4 by the template 'for every input the law returns true; each argument reads behind the call as it read before'; 0 by the template 'total and deterministic' (their statements: Qxb6619195aModsTotals.lean).
  GIVEN WITH THE SEED: the statements are not yours to turn. If you find one false, say at which input.
  Laid BY PROGRAM, IN A SANDBOX (cutbox-rows.mjs): the forced cells as the released guide's own fill.sh prints them over the translation c4813770600451ab… (all of the seat's roots in one cut). By AI agents, Wed Nov 11 2026. No macro, syntax, notation, axiom, sorry.
-/
import Derived.Test.Qxb6619195aModsChecked
import GoSem.Claim
import GoSem.ClaimJoined
import GoSem.ClaimMapViews
import Derived.JoinedTies
import Derived.KernelRfl
namespace Go.Proofs.Qxb6619195aMods
/- THE CELL 'sum', in the pinned program and in every row, IS THE sha256 OF THE DUMP (.gsa) THAT Qxb6619195aModsProg.lean LOADS. Nothing in Lean hashes anything: it is a label: what it is worth is what the hold of that sum in a sandbox is worth. -/
noncomputable def Trym.pinned : Pinned := { name := "qxb6619195amods", sum := "c4813770600451ab97aef79e888c53b37d0a3543512ce749433713cc705dfdcd", checked := Trym.checked }
namespace Rows
def none {H : Type} : Left H := { results := [], args := [] }

/-- 'zzlaws_markdown_b1.FnItemOpenerFewestSpacesInFront': WHATEVER THE INPUT: true; the input reads as it did. -/
def fnItemOpenerFewestSpacesInFrontSpec : ChangeSpec := { name := "fnItemOpenerFewestSpacesInFront", fn := fun _ => fun
  | [d1, d2] => { results := [.lit (.bool true)], args := [d1, d2] }
  | _ => none }
def fnItemOpenerFewestSpacesInFrontRow : OpenClaim := { program := "qxb6619195amods", sum := "c4813770600451ab97aef79e888c53b37d0a3543512ce749433713cc705dfdcd", func := "example.com/runeloom/runeloom/zzlaws_markdown_b1.FnItemOpenerFewestSpacesInFront", spec := "fnItemOpenerFewestSpacesInFront", inPlace := ["internal/abi.NoEscape", "internal/bytealg.MakeNoZero"], make := .lifted ["publicsums"], apart := false }
def FnItemOpenerFewestSpacesInFrontSaid : Prop := fnItemOpenerFewestSpacesInFrontRow.holds Trym.pinned (OpenSpec.ofChange fnItemOpenerFewestSpacesInFrontSpec)

/-- ITS FALSE NEIGHBOUR: 'it returns false'. Refute it at one input. -/
def fnItemOpenerFewestSpacesInFrontWrong : ChangeSpec := { name := "fnItemOpenerFewestSpacesInFront", fn := fun _ => fun
  | [d1, d2] => { results := [.lit (.bool false)], args := [d1, d2] }
  | _ => none }
def FnItemOpenerFewestSpacesInFrontWrongFalsely : Prop := fnItemOpenerFewestSpacesInFrontRow.holds Trym.pinned (OpenSpec.ofChange fnItemOpenerFewestSpacesInFrontWrong)

/-- 'zzlaws_markdown_b1.FnItemOpenerReadsBackAsListItem': WHATEVER THE INPUT: true; the input reads as it did. -/
def fnItemOpenerReadsBackAsListItemSpec : ChangeSpec := { name := "fnItemOpenerReadsBackAsListItem", fn := fun _ => fun
  | [d1, d2] => { results := [.lit (.bool true)], args := [d1, d2] }
  | _ => none }
def fnItemOpenerReadsBackAsListItemRow : OpenClaim := { program := "qxb6619195amods", sum := "c4813770600451ab97aef79e888c53b37d0a3543512ce749433713cc705dfdcd", func := "example.com/runeloom/runeloom/zzlaws_markdown_b1.FnItemOpenerReadsBackAsListItem", spec := "fnItemOpenerReadsBackAsListItem", inPlace := ["internal/abi.NoEscape", "internal/bytealg.MakeNoZero"], make := .lifted ["publicsums"], apart := false }
def FnItemOpenerReadsBackAsListItemSaid : Prop := fnItemOpenerReadsBackAsListItemRow.holds Trym.pinned (OpenSpec.ofChange fnItemOpenerReadsBackAsListItemSpec)

/-- ITS FALSE NEIGHBOUR: 'it returns false'. Refute it at one input. -/
def fnItemOpenerReadsBackAsListItemWrong : ChangeSpec := { name := "fnItemOpenerReadsBackAsListItem", fn := fun _ => fun
  | [d1, d2] => { results := [.lit (.bool false)], args := [d1, d2] }
  | _ => none }
def FnItemOpenerReadsBackAsListItemWrongFalsely : Prop := fnItemOpenerReadsBackAsListItemRow.holds Trym.pinned (OpenSpec.ofChange fnItemOpenerReadsBackAsListItemWrong)

/-- 'zzlaws_markdown_b1.FnDirtyInsertHullOfMovedPieces': WHATEVER THE INPUT: true; the input reads as it did. -/
def fnDirtyInsertHullOfMovedPiecesSpec : ChangeSpec := { name := "fnDirtyInsertHullOfMovedPieces", fn := fun _ => fun
  | [d1, d2, d3, d4, d5, d6] => { results := [.lit (.bool true)], args := [d1, d2, d3, d4, d5, d6] }
  | _ => none }
def fnDirtyInsertHullOfMovedPiecesRow : OpenClaim := { program := "qxb6619195amods", sum := "c4813770600451ab97aef79e888c53b37d0a3543512ce749433713cc705dfdcd", func := "example.com/runeloom/runeloom/zzlaws_markdown_b1.FnDirtyInsertHullOfMovedPieces", spec := "fnDirtyInsertHullOfMovedPieces", make := .lifted ["publicsums"], apart := false }
def FnDirtyInsertHullOfMovedPiecesSaid : Prop := fnDirtyInsertHullOfMovedPiecesRow.holds Trym.pinned (OpenSpec.ofChange fnDirtyInsertHullOfMovedPiecesSpec)

/-- ITS FALSE NEIGHBOUR: 'it returns false'. Refute it at one input. -/
def fnDirtyInsertHullOfMovedPiecesWrong : ChangeSpec := { name := "fnDirtyInsertHullOfMovedPieces", fn := fun _ => fun
  | [d1, d2, d3, d4, d5, d6] => { results := [.lit (.bool false)], args := [d1, d2, d3, d4, d5, d6] }
  | _ => none }
def FnDirtyInsertHullOfMovedPiecesWrongFalsely : Prop := fnDirtyInsertHullOfMovedPiecesRow.holds Trym.pinned (OpenSpec.ofChange fnDirtyInsertHullOfMovedPiecesWrong)

/-- 'zzlaws_markdown_b1.FnDirtyInsertBoundsTheInsertedRunes': WHATEVER THE INPUT: true; the input reads as it did. -/
def fnDirtyInsertBoundsTheInsertedRunesSpec : ChangeSpec := { name := "fnDirtyInsertBoundsTheInsertedRunes", fn := fun _ => fun
  | [d1, d2, d3] => { results := [.lit (.bool true)], args := [d1, d2, d3] }
  | _ => none }
def fnDirtyInsertBoundsTheInsertedRunesRow : OpenClaim := { program := "qxb6619195amods", sum := "c4813770600451ab97aef79e888c53b37d0a3543512ce749433713cc705dfdcd", func := "example.com/runeloom/runeloom/zzlaws_markdown_b1.FnDirtyInsertBoundsTheInsertedRunes", spec := "fnDirtyInsertBoundsTheInsertedRunes", make := .lifted ["publicsums"], apart := false }
def FnDirtyInsertBoundsTheInsertedRunesSaid : Prop := fnDirtyInsertBoundsTheInsertedRunesRow.holds Trym.pinned (OpenSpec.ofChange fnDirtyInsertBoundsTheInsertedRunesSpec)

/-- ITS FALSE NEIGHBOUR: 'it returns false'. Refute it at one input. -/
def fnDirtyInsertBoundsTheInsertedRunesWrong : ChangeSpec := { name := "fnDirtyInsertBoundsTheInsertedRunes", fn := fun _ => fun
  | [d1, d2, d3] => { results := [.lit (.bool false)], args := [d1, d2, d3] }
  | _ => none }
def FnDirtyInsertBoundsTheInsertedRunesWrongFalsely : Prop := fnDirtyInsertBoundsTheInsertedRunesRow.holds Trym.pinned (OpenSpec.ofChange fnDirtyInsertBoundsTheInsertedRunesWrong)

end Rows
end Go.Proofs.Qxb6619195aMods
