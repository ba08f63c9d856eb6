/-
  No cell of these rows narrows 'for every input' (looked for: loops, veiled, ifaces, maps, wideKeys, modest, calm, conditions, laid).
  DERIVED. THE GIVEN ROWS OF THIS SEAT. 3 by the template 'for every input the law returns true; each argument reads behind the call as it read before'; 0 by the template 'total and deterministic' (their statements: Qxb6615586aTotals.lean).
  GIVEN WITH THE SEED: the statements are not yours to turn. If you find one false, say at which input.
  Laid BY PROGRAM, IN A SANDBOX (cutbox-rows.mjs): the forced cells as the released guide's own fill.sh prints them over the translation bbf082efbc765b7a… (all of the seat's roots in one cut). By AI agents, Wed Nov 11 2026. No macro, syntax, notation, axiom, sorry.
-/
import Derived.Test.Qxb6615586aChecked
import GoSem.Claim
import GoSem.ClaimJoined
import GoSem.ClaimMapViews
import Derived.JoinedTies
import Derived.KernelRfl
namespace Go.Proofs.Qxb6615586a
/- THE CELL 'sum', in the pinned program and in every row, IS THE sha256 OF THE DUMP (.gsa) THAT Qxb6615586aProg.lean LOADS. Nothing in Lean hashes anything: it is a label: what it is worth is what the hold of that sum in a sandbox is worth. -/
noncomputable def Try.pinned : Pinned := { name := "qxb6615586a", sum := "bbf082efbc765b7a4cc938e255ce25d050a868a6c41f27ab6f511aaaee12fd37", checked := Try.checked }
namespace Rows
def none {H : Type} : Left H := { results := [], args := [] }

/-- 'zzlaws_pkg_store_b1.FnConditionActionDeleteHangsOnComparingAlone': WHATEVER THE INPUT: true; the input reads as it did. -/
def fnConditionActionDeleteHangsOnComparingAloneSpec : ChangeSpec := { name := "fnConditionActionDeleteHangsOnComparingAlone", fn := fun _ => fun
  | [d1, d2, d3, d4] => { results := [.lit (.bool true)], args := [d1, d2, d3, d4] }
  | _ => none }
def fnConditionActionDeleteHangsOnComparingAloneRow : OpenClaim := { program := "qxb6615586a", sum := "bbf082efbc765b7a4cc938e255ce25d050a868a6c41f27ab6f511aaaee12fd37", func := "example.com/eurycleia/eurycleia/zzlaws_pkg_store_b1.FnConditionActionDeleteHangsOnComparingAlone", spec := "fnConditionActionDeleteHangsOnComparingAlone", apart := false }
def FnConditionActionDeleteHangsOnComparingAloneSaid : Prop := fnConditionActionDeleteHangsOnComparingAloneRow.holds Try.pinned (OpenSpec.ofChange fnConditionActionDeleteHangsOnComparingAloneSpec)

/-- ITS FALSE NEIGHBOUR: 'it returns false'. Refute it at one input. -/
def fnConditionActionDeleteHangsOnComparingAloneWrong : ChangeSpec := { name := "fnConditionActionDeleteHangsOnComparingAlone", fn := fun _ => fun
  | [d1, d2, d3, d4] => { results := [.lit (.bool false)], args := [d1, d2, d3, d4] }
  | _ => none }
def FnConditionActionDeleteHangsOnComparingAloneWrongFalsely : Prop := fnConditionActionDeleteHangsOnComparingAloneRow.holds Try.pinned (OpenSpec.ofChange fnConditionActionDeleteHangsOnComparingAloneWrong)

/-- 'zzlaws_pkg_store_b1.FnConditionActionWriteNames': WHATEVER THE INPUT: true; the input reads as it did. -/
def fnConditionActionWriteNamesSpec : ChangeSpec := { name := "fnConditionActionWriteNames", fn := fun _ => fun
  | [d1, d2, d3, d4] => { results := [.lit (.bool true)], args := [d1, d2, d3, d4] }
  | _ => none }
def fnConditionActionWriteNamesRow : OpenClaim := { program := "qxb6615586a", sum := "bbf082efbc765b7a4cc938e255ce25d050a868a6c41f27ab6f511aaaee12fd37", func := "example.com/eurycleia/eurycleia/zzlaws_pkg_store_b1.FnConditionActionWriteNames", spec := "fnConditionActionWriteNames", apart := false }
def FnConditionActionWriteNamesSaid : Prop := fnConditionActionWriteNamesRow.holds Try.pinned (OpenSpec.ofChange fnConditionActionWriteNamesSpec)

/-- ITS FALSE NEIGHBOUR: 'it returns false'. Refute it at one input. -/
def fnConditionActionWriteNamesWrong : ChangeSpec := { name := "fnConditionActionWriteNames", fn := fun _ => fun
  | [d1, d2, d3, d4] => { results := [.lit (.bool false)], args := [d1, d2, d3, d4] }
  | _ => none }
def FnConditionActionWriteNamesWrongFalsely : Prop := fnConditionActionWriteNamesRow.holds Try.pinned (OpenSpec.ofChange fnConditionActionWriteNamesWrong)

/-- 'zzlaws_pkg_store_b1.FnExpiryLessRanksThreeByTimeThenKey': WHATEVER THE INPUT: true; the input reads as it did. -/
def fnExpiryLessRanksThreeByTimeThenKeySpec : ChangeSpec := { name := "fnExpiryLessRanksThreeByTimeThenKey", fn := fun _ => fun
  | [d1, d2, d3, d4, d5, d6] => { results := [.lit (.bool true)], args := [d1, d2, d3, d4, d5, d6] }
  | _ => none }
def fnExpiryLessRanksThreeByTimeThenKeyRow : OpenClaim := { program := "qxb6615586a", sum := "bbf082efbc765b7a4cc938e255ce25d050a868a6c41f27ab6f511aaaee12fd37", func := "example.com/eurycleia/eurycleia/zzlaws_pkg_store_b1.FnExpiryLessRanksThreeByTimeThenKey", spec := "fnExpiryLessRanksThreeByTimeThenKey", inPlace := ["internal/bytealg.abigen_runtime_cmpstring"], apart := false }
def FnExpiryLessRanksThreeByTimeThenKeySaid : Prop := fnExpiryLessRanksThreeByTimeThenKeyRow.holds Try.pinned (OpenSpec.ofChange fnExpiryLessRanksThreeByTimeThenKeySpec)

/-- ITS FALSE NEIGHBOUR: 'it returns false'. Refute it at one input. -/
def fnExpiryLessRanksThreeByTimeThenKeyWrong : ChangeSpec := { name := "fnExpiryLessRanksThreeByTimeThenKey", fn := fun _ => fun
  | [d1, d2, d3, d4, d5, d6] => { results := [.lit (.bool false)], args := [d1, d2, d3, d4, d5, d6] }
  | _ => none }
def FnExpiryLessRanksThreeByTimeThenKeyWrongFalsely : Prop := fnExpiryLessRanksThreeByTimeThenKeyRow.holds Try.pinned (OpenSpec.ofChange fnExpiryLessRanksThreeByTimeThenKeyWrong)

end Rows
end Go.Proofs.Qxb6615586a
