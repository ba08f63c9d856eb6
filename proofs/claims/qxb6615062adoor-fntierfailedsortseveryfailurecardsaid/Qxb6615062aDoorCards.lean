/-
  DERIVED. GIVEN WITH THE SEED: THE CARDS: each row of Qxb6615062aDoorRows.lean that lists a variable, with what it lists TIED to the program's text (the seventh form; the later family's looks); each row that meets fmt, with fmt's text TOLD by the authors' own Lean function (tested against real Go, not proved from fmt's source: count such statements apart). THE CARD IS WHAT COUNTS. Prove the row's statement (the work); the ties are given (Qxb6615062aDoorTie.lean); close each card by the builder's one call (the guide's Derived/Test/ToyasCard.lean, 'card_holds'). Laid BY PROGRAM, IN A SANDBOX (cutbox-door.mjs). By AI agents, Wed Nov 11 2026. No macro, syntax, notation, axiom, sorry.
-/
import Derived.Test.Qxb6615062aDoorRows
import GoSem.ClaimSeven
namespace Go.Proofs.Qxb6615062aDoor
namespace Rows

/-- THE TIED CARD OF 'zzlaws_root_b1.FnTierFailedSortsEveryFailure'. -/
def fnTierFailedSortsEveryFailureCard : Claim7 := { stood := { row := fnTierFailedSortsEveryFailureRow, standIns := [], harness := (true, "64c06a0ad82deacba8c62234d46f17991a6b9d35e4fe7a806d630e782d87d513"), looks := true }, kinds := [], alts := [], laidByText := true, laidKinds := [.sentinel], laidTests := true, laidLooks := .later }
def FnTierFailedSortsEveryFailureCardSaid : Prop := Claim7.holds Tryd.pinned (.plain (OpenSpec.ofChange fnTierFailedSortsEveryFailureSpec)) fnTierFailedSortsEveryFailureCard

/-- THE TIED CARD OF 'zzlaws_root_b1.FnTierFailedCountsAddUpInAnyOrder'. -/
def fnTierFailedCountsAddUpInAnyOrderCard : Claim7 := { stood := { row := fnTierFailedCountsAddUpInAnyOrderRow, standIns := [], harness := (true, "64c06a0ad82deacba8c62234d46f17991a6b9d35e4fe7a806d630e782d87d513"), looks := true }, kinds := [], alts := [], laidByText := true, laidKinds := [.sentinel], laidTests := true, laidLooks := .later }
def FnTierFailedCountsAddUpInAnyOrderCardSaid : Prop := Claim7.holds Tryd.pinned (.plain (OpenSpec.ofChange fnTierFailedCountsAddUpInAnyOrderSpec)) fnTierFailedCountsAddUpInAnyOrderCard
end Rows
end Go.Proofs.Qxb6615062aDoor
