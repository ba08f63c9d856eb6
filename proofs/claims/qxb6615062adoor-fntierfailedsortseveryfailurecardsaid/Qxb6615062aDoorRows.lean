/-
  NARROWER THAN 'FOR EVERY INPUT', by the rows' own cells (each row's printed sentence says how): FnTierFailedSortsEveryFailure: ifaces, laid · FnTierFailedCountsAddUpInAnyOrder: ifaces, laid.
  DERIVED. THE GIVEN ROWS OF THIS SEAT. 2 by the template 'for every input the law returns true; each argument reads behind the call as it read before'; 0 by the template 'total and deterministic' (their statements: Qxb6615062aDoorTotals.lean).
  GIVEN WITH THE SEED: the statements are not yours to turn. If you find one false, say at which input.
  Laid BY PROGRAM, IN A SANDBOX (cutbox-rows.mjs): the forced cells as the released guide's own fill.sh prints them over the translation 8e3a71c0968fa4c3… (all of the seat's roots in one cut). By AI agents, Wed Nov 11 2026. No macro, syntax, notation, axiom, sorry.
-/
import Derived.Test.Qxb6615062aDoorChecked
import GoSem.Claim
import GoSem.ClaimJoined
import GoSem.ClaimMapViews
import Derived.JoinedTies
import Derived.KernelRfl
namespace Go.Proofs.Qxb6615062aDoor
/- THE CELL 'sum', in the pinned program and in every row, IS THE sha256 OF THE DUMP (.gsa) THAT Qxb6615062aDoorProg.lean LOADS. Nothing in Lean hashes anything: it is a label: what it is worth is what the hold of that sum in a sandbox is worth. -/
noncomputable def Tryd.pinned : Pinned := { name := "qxb6615062adoor", sum := "8e3a71c0968fa4c3b3a0d7876fbfaebee30f9202da3564e9f3c4f04731ec2ae2", checked := Tryd.checked }
namespace Rows
def none {H : Type} : Left H := { results := [], args := [] }

/- WHAT THE LISTED PACKAGE-LEVEL VARIABLES READ AS WHEN THE CALL BEGINS. Each datum BY PROGRAM (the guide's laid-datum.mjs) off the statement by which the dump's own 'gosem.cut.vars' lays the variable. In a bare row this is a premise. The card (Qxb6615062aDoorCards.lean) ties it to the program's text. -/
def laid_example_com_hato_hato_errTierSilent {H : Type} : DataW H := .iface "*errors.errorString" (.ptr (.agg [.lit (.string [104, 97, 116, 111, 58, 32, 116, 104, 101, 32, 102, 108, 101, 101, 116, 32, 116, 105, 101, 114, 32, 100, 105, 100, 32, 110, 111, 116, 32, 97, 110, 115, 119, 101, 114, 32, 105, 110, 32, 116, 105, 109, 101])]))

/-- 'zzlaws_root_b1.FnTierFailedSortsEveryFailure': WHATEVER THE INPUT: true; the input reads as it did. -/
def fnTierFailedSortsEveryFailureSpec : ChangeSpec := { name := "fnTierFailedSortsEveryFailure", vars := ["example.com/hato/hato.errTierSilent"], fn := fun _ => fun
  | [d, g1] => { results := [.lit (.bool true)], args := [d], vars := [g1] }
  | _ => none }
def fnTierFailedSortsEveryFailureRow : OpenClaim := { program := "qxb6615062adoor", sum := "8e3a71c0968fa4c3b3a0d7876fbfaebee30f9202da3564e9f3c4f04731ec2ae2", func := "example.com/hato/hato/zzlaws_root_b1.FnTierFailedSortsEveryFailure", spec := "fnTierFailedSortsEveryFailure", inPlace := ["sync/atomic.StoreUint64", "internal/reflectlite.TypeOf", "sync/atomic.AddUint64", "sync/atomic.LoadUint64"], unfollowed := true, recurses := true, named := ["example.com/hato/hato.errTierSilent"], ifaces := true, apart := false, laid := [("example.com/hato/hato.errTierSilent", laid_example_com_hato_hato_errTierSilent)] }
def FnTierFailedSortsEveryFailureSaid : Prop := fnTierFailedSortsEveryFailureRow.holds Tryd.pinned (OpenSpec.ofChange fnTierFailedSortsEveryFailureSpec)

/-- ITS FALSE NEIGHBOUR: 'it returns false'. Refute it at one input. -/
def fnTierFailedSortsEveryFailureWrong : ChangeSpec := { name := "fnTierFailedSortsEveryFailure", vars := ["example.com/hato/hato.errTierSilent"], fn := fun _ => fun
  | [d, g1] => { results := [.lit (.bool false)], args := [d], vars := [g1] }
  | _ => none }
def FnTierFailedSortsEveryFailureWrongFalsely : Prop := fnTierFailedSortsEveryFailureRow.holds Tryd.pinned (OpenSpec.ofChange fnTierFailedSortsEveryFailureWrong)

/-- 'zzlaws_root_b1.FnTierFailedCountsAddUpInAnyOrder': WHATEVER THE INPUT: true; the input reads as it did. -/
def fnTierFailedCountsAddUpInAnyOrderSpec : ChangeSpec := { name := "fnTierFailedCountsAddUpInAnyOrder", vars := ["example.com/hato/hato.errTierSilent"], fn := fun _ => fun
  | [d1, d2, d3, d4, g1] => { results := [.lit (.bool true)], args := [d1, d2, d3, d4], vars := [g1] }
  | _ => none }
def fnTierFailedCountsAddUpInAnyOrderRow : OpenClaim := { program := "qxb6615062adoor", sum := "8e3a71c0968fa4c3b3a0d7876fbfaebee30f9202da3564e9f3c4f04731ec2ae2", func := "example.com/hato/hato/zzlaws_root_b1.FnTierFailedCountsAddUpInAnyOrder", spec := "fnTierFailedCountsAddUpInAnyOrder", inPlace := ["sync/atomic.StoreUint64", "internal/reflectlite.TypeOf", "sync/atomic.AddUint64", "sync/atomic.LoadUint64"], unfollowed := true, recurses := true, named := ["example.com/hato/hato.errTierSilent"], ifaces := true, apart := false, laid := [("example.com/hato/hato.errTierSilent", laid_example_com_hato_hato_errTierSilent)] }
def FnTierFailedCountsAddUpInAnyOrderSaid : Prop := fnTierFailedCountsAddUpInAnyOrderRow.holds Tryd.pinned (OpenSpec.ofChange fnTierFailedCountsAddUpInAnyOrderSpec)

/-- ITS FALSE NEIGHBOUR: 'it returns false'. Refute it at one input. -/
def fnTierFailedCountsAddUpInAnyOrderWrong : ChangeSpec := { name := "fnTierFailedCountsAddUpInAnyOrder", vars := ["example.com/hato/hato.errTierSilent"], fn := fun _ => fun
  | [d1, d2, d3, d4, g1] => { results := [.lit (.bool false)], args := [d1, d2, d3, d4], vars := [g1] }
  | _ => none }
def FnTierFailedCountsAddUpInAnyOrderWrongFalsely : Prop := fnTierFailedCountsAddUpInAnyOrderRow.holds Tryd.pinned (OpenSpec.ofChange fnTierFailedCountsAddUpInAnyOrderWrong)

end Rows
end Go.Proofs.Qxb6615062aDoor
