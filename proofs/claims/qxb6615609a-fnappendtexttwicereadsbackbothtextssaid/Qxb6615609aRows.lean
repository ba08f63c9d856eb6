/-
  No cell of these rows narrows 'for every input' (looked for: loops, veiled, ifaces, maps, wideKeys, modest, calm, conditions, laid).
  DERIVED. THE GIVEN ROWS OF THIS SEAT. 2 by the template 'for every input the law returns true; each argument reads behind the call as it read before'; 0 by the template 'total and deterministic' (their statements: Qxb6615609aTotals.lean).
  GIVEN WITH THE SEED: the statements are not yours to turn. If you find one false, say at which input.
  Laid BY PROGRAM, IN A SANDBOX (cutbox-rows.mjs): the forced cells as the released guide's own fill.sh prints them over the translation 15d8663a6ae5ff05… (all of the seat's roots in one cut). By AI agents, Wed Nov 11 2026. No macro, syntax, notation, axiom, sorry.
-/
import Derived.Test.Qxb6615609aChecked
import GoSem.Claim
import GoSem.ClaimJoined
import GoSem.ClaimMapViews
import Derived.JoinedTies
import Derived.KernelRfl
namespace Go.Proofs.Qxb6615609a
/- THE CELL 'sum', in the pinned program and in every row, IS THE sha256 OF THE DUMP (.gsa) THAT Qxb6615609aProg.lean LOADS. Nothing in Lean hashes anything: it is a label: what it is worth is what the hold of that sum in a sandbox is worth. -/
noncomputable def Try.pinned : Pinned := { name := "qxb6615609a", sum := "15d8663a6ae5ff055fe7c1c570a82ada1b48692f810cd8a5ee49483ea2d6c9e0", checked := Try.checked }
namespace Rows
def none {H : Type} : Left H := { results := [], args := [] }

/-- 'zzlaws_internal_clickhouse_b1.FnColumnNamesListsColumnsInOrderFreshEachCall': WHATEVER THE INPUT: true; the input reads as it did. -/
def fnColumnNamesListsColumnsInOrderFreshEachCallSpec : ChangeSpec := { name := "fnColumnNamesListsColumnsInOrderFreshEachCall", fn := fun _ => fun
  | [d1, d2, d3] => { results := [.lit (.bool true)], args := [d1, d2, d3] }
  | _ => none }
def fnColumnNamesListsColumnsInOrderFreshEachCallRow : OpenClaim := { program := "qxb6615609a", sum := "15d8663a6ae5ff055fe7c1c570a82ada1b48692f810cd8a5ee49483ea2d6c9e0", func := "example.com/tidemark/tidemark/zzlaws_internal_clickhouse_b1.FnColumnNamesListsColumnsInOrderFreshEachCall", spec := "fnColumnNamesListsColumnsInOrderFreshEachCall", apart := false }
def FnColumnNamesListsColumnsInOrderFreshEachCallSaid : Prop := fnColumnNamesListsColumnsInOrderFreshEachCallRow.holds Try.pinned (OpenSpec.ofChange fnColumnNamesListsColumnsInOrderFreshEachCallSpec)

/-- ITS FALSE NEIGHBOUR: 'it returns false'. Refute it at one input. -/
def fnColumnNamesListsColumnsInOrderFreshEachCallWrong : ChangeSpec := { name := "fnColumnNamesListsColumnsInOrderFreshEachCall", fn := fun _ => fun
  | [d1, d2, d3] => { results := [.lit (.bool false)], args := [d1, d2, d3] }
  | _ => none }
def FnColumnNamesListsColumnsInOrderFreshEachCallWrongFalsely : Prop := fnColumnNamesListsColumnsInOrderFreshEachCallRow.holds Try.pinned (OpenSpec.ofChange fnColumnNamesListsColumnsInOrderFreshEachCallWrong)

/-- 'zzlaws_internal_clickhouse_b1.FnAppendTextTwiceReadsBackBothTexts': WHATEVER THE INPUT: true; the input reads as it did. -/
def fnAppendTextTwiceReadsBackBothTextsSpec : ChangeSpec := { name := "fnAppendTextTwiceReadsBackBothTexts", fn := fun _ => fun
  | [d1, d2, d3] => { results := [.lit (.bool true)], args := [d1, d2, d3] }
  | _ => none }
def fnAppendTextTwiceReadsBackBothTextsRow : OpenClaim := { program := "qxb6615609a", sum := "15d8663a6ae5ff055fe7c1c570a82ada1b48692f810cd8a5ee49483ea2d6c9e0", func := "example.com/tidemark/tidemark/zzlaws_internal_clickhouse_b1.FnAppendTextTwiceReadsBackBothTexts", spec := "fnAppendTextTwiceReadsBackBothTexts", apart := false }
def FnAppendTextTwiceReadsBackBothTextsSaid : Prop := fnAppendTextTwiceReadsBackBothTextsRow.holds Try.pinned (OpenSpec.ofChange fnAppendTextTwiceReadsBackBothTextsSpec)

/-- ITS FALSE NEIGHBOUR: 'it returns false'. Refute it at one input. -/
def fnAppendTextTwiceReadsBackBothTextsWrong : ChangeSpec := { name := "fnAppendTextTwiceReadsBackBothTexts", fn := fun _ => fun
  | [d1, d2, d3] => { results := [.lit (.bool false)], args := [d1, d2, d3] }
  | _ => none }
def FnAppendTextTwiceReadsBackBothTextsWrongFalsely : Prop := fnAppendTextTwiceReadsBackBothTextsRow.holds Try.pinned (OpenSpec.ofChange fnAppendTextTwiceReadsBackBothTextsWrong)

end Rows
end Go.Proofs.Qxb6615609a
