/-
  WHAT THE CELL 'laid' GIVES A WALK: the one sentinel.
-/
import Derived.Test.Qxb6615062aDoorRows
import Derived.Test.Qxb6615062aDoorWk4
import Derived.ProofKit
import Derived.ChangeSame
import Derived.ChangeVars
import Derived.JoinedOf
import Derived.RowKit
import Derived.RowKitTokens
import Derived.LaidLaws
import Derived.Stop.ErrReads
import Derived.Stop.LaidErr
namespace Go.Proofs.Qxb6615062aDoor
open Go.ChangeShapes Go.WideShapes Go.RowKit

theorem own : ownKnob Tryd.prog.godebug = none := by kernel_rfl
theorem laidOut : laidOutB Tryd.prog = true := by kernel_rfl
/-- The listed variable's name, and the name of the type that it holds: off the given row. -/
def vn : String := Rows.fnTierFailedCountsAddUpInAnyOrderSpec.vars.headD Rows.fnTierFailedCountsAddUpInAnyOrderSpec.name
def tn : String := match Rows.laid_example_com_hato_hato_errTierSilent (H := Unit) with
  | .iface t _ => t
  | _ => Rows.fnTierFailedCountsAddUpInAnyOrderSpec.name
theorem gSent : Tryd.prog.globalNamed vn = some 0 := by kernel_rfl
theorem gSentType : (Tryd.prog.globals[0]?).map (·.type) = some 54 := by kernel_rfl
theorem cells66 : Tryd.prog.cellsOf 66 = 1 := by kernel_rfl
theorem cells9 : Tryd.prog.cellsOf 9 = 1 := by kernel_rfl
theorem row64 (u : TypeId) (h : Tryd.prog.typeName? 3 u = some tn) : u = 64 :=
  typeName_ptr_named (nm := "errors.errorString") (by kernel_rfl) (by kernel_rfl) (by decide) u (h.trans (congrArg some (by decide)))

set_option maxRecDepth 100000 in
theorem sentinel_of_laid {W : World} (h : laidMet Tryd.prog Rows.fnTierFailedCountsAddUpInAnyOrderRow.laid W) :
    ∃ s : Addr, W.var? Tryd.prog vn = some #[.iface 64 (.pointer (some s))] ∧ Sent W s := by
  obtain ⟨ps, ⟨g0, t0, cs0, f0, p0, q0, hg0, ht0, hv0, hd0, hq0, e0⟩, hnd, hrows⟩ := h
  obtain rfl := Option.some.inj (gSent.symm.trans hg0)
  obtain rfl := Option.some.inj (gSentType.symm.trans ht0)
  subst e0
  obtain ⟨l0⟩ := cs0
  have ok0 : ∀ u v, l0 = [.iface u v] → Value.okWide Tryd.prog W .any 0 u v := fun u v e => by
    subst e
    exact (hrows 0 0 (by simp [MemPlace.row])).2 u v (by simpa using World.var?_cell hg0 hv0 0)
  obtain ⟨a0, s0, rfl, hc0, hs0, hz0, rfl⟩ := errorString_of_trod Tryd.underlying54 row64 Tryd.underlying64 Tryd.underlying66 rfl rfl Tryd.underlying9 cells66 cells9 hd0 ok0
  obtain ⟨c0, t0, hb0⟩ := (hrows a0.block a0.off (by simp [MemPlace.row])).1
  exact ⟨a0, hv0, by simpa using World.var?_cell hg0 hv0 0, c0, t0, hb0⟩

end Go.Proofs.Qxb6615062aDoor
