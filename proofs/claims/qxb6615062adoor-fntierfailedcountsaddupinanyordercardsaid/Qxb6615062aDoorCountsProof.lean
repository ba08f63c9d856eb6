/-
  THE ROW of FnTierFailedCountsAddUpInAnyOrder, proved, and its TIED CARD.
-/
import Derived.Test.Qxb6615062aDoorLaid
import Derived.Test.Qxb6615062aDoorWk5
import Derived.Test.Qxb6615062aDoorTie
import Derived.Test.Qxb6615062aDoorCards
import Derived.OpenShut
import Derived.Below
import Derived.Carry
import Derived.SevenTiedAt
namespace Go.Proofs.Qxb6615062aDoor.Counts
open Go.ChangeShapes Go.WideShapes Go.ChangeAt Go.RowKit
set_option linter.unusedVariables false

set_option maxRecDepth 100000 in
theorem lifted (os : Os) (started : os.Started) (H : Type) (enc : TypeId × Value → H) :
    ReturnsInHanded {} Tryd.checked os 4 .any (fun w args => (Rows.fnTierFailedCountsAddUpInAnyOrderSpec.pre enc Tryd.prog Tryd.f4 [] false w args ∧ laidMet Tryd.prog Rows.fnTierFailedCountsAddUpInAnyOrderRow.laid w) ∧
        sizedMet enc Tryd.prog Tryd.f4 (OpenSpec.ofChange Rows.fnTierFailedCountsAddUpInAnyOrderSpec) false w args)
      (Rows.fnTierFailedCountsAddUpInAnyOrderSpec.post enc Tryd.prog Tryd.f4 false true false false) := by
  refine returnsInHanded_of_change_and (C := Tryd.checked) (X := fun w _ => laidMet Tryd.prog Rows.fnTierFailedCountsAddUpInAnyOrderRow.laid w) (fun _ _ _ hh h => h.of_heap hh) own started (by kernel_rfl) Tryd.func4
    (ChangeSpec.witness_at (enc := enc) (C := Tryd.checked) (os := os) (X := fun w _ => laidMet Tryd.prog Rows.fnTierFailedCountsAddUpInAnyOrderRow.laid w) false
      (let w0 := World.holding Tryd.prog os ⟨#[.cells #[.string { data := #[104, 97, 116, 111, 58, 32, 116, 104, 101, 32, 102, 108, 101, 101, 116, 32, 116, 105, 101, 114, 32, 100, 105, 100, 32, 110, 111, 116, 32, 97, 110, 115, 119, 101, 114, 32, 105, 110, 32, 116, 105, 109, 101] }] 66], #[], []⟩
       { w0 with heap := w0.heap.modify 0 fun
          | .cells _ t frozen => .cells #[.iface 64 (.pointer (some ⟨(World.holding Tryd.prog default ⟨#[], #[], []⟩).heap.size, 0, none⟩))] t frozen
          | o => o })
      #[.int .u64 0, .int .u64 0, .int .u8 0, .int .u8 0] 8 rfl (by kernel_rfl) (by kernel_rfl) (by kernel_rfl) (by kernel_rfl) (by kernel_rfl)
      (laidMet_of_run (ps := [.cell 0 0, .cell (World.holding Tryd.prog default ⟨#[], #[], []⟩).heap.size 0]) 8 (by kernel_rfl) (by kernel_rfl) (by kernel_rfl))) ?_
  intro W base args ds gs before hval0 hW _ _ hL _
  have hval : ∀ (j : Nat) t v, Tryd.f4.params[j]? = some t → args[j]? = some v → Value.okWide Tryd.prog W .any base t v := hval0
  have hW' := hW
  obtain ⟨p, q, hA0, hV0, rfl, hfz, hnd⟩ := hW
  have hA : DataW.TrodAll enc Tryd.prog W 0 (fun _ => true) true Tryd.f4.params.toList args.toList ds p := hA0
  have hV : DataW.TrodVars enc Tryd.prog W (fun _ => true) [vn] gs q := hV0
  rw [Tryd.params4] at hA hval
  obtain ⟨v0, v1, v2, v3, d0, d1, d2, d3, p0, p1, p2, p3, rfl, rfl, rfl, h0, h1, h2, h3⟩ := trodAll_four hA
  obtain ⟨a, rfl, rfl, rfl, wa⟩ := open_int Tryd.underlying26 (hval 0 26 v0 rfl rfl) h0
  obtain ⟨b, rfl, rfl, rfl, wb⟩ := open_int Tryd.underlying26 (hval 1 26 v1 rfl rfl) h1
  obtain ⟨k1, rfl, rfl, rfl, wk1⟩ := open_int Tryd.underlying5 (hval 2 5 v2 rfl rfl) h2
  obtain ⟨k2, rfl, rfl, rfl, wk2⟩ := open_int Tryd.underlying5 (hval 3 5 v3 rfl rfl) h3
  obtain ⟨s, hv, hs⟩ := sentinel_of_laid hL
  obtain ⟨rfl, rfl⟩ := hV.unique (vars_read1 enc gSent gSentType Tryd.underlying54 hv trivial _)
  clear hA0 hV0 hval0
  have z1 : 0 ≤ k1 := (bounds_u8 wk1).1
  have z2 : 0 ≤ k2 := (bounds_u8 wk2).1
  have e1 : Rows.fnTierFailedCountsAddUpInAnyOrderSpec.fn H ([.lit (.int .u64 a), .lit (.int .u64 b), .lit (.int .u8 k1), .lit (.int .u8 k2)] ++ [tok enc (.iface 64 (.pointer (some s)))]) =
      { results := [.lit (.bool true)], args := [.lit (.int .u64 a), .lit (.int .u64 b), .lit (.int .u8 k1), .lit (.int .u8 k2)], vars := [tok enc (.iface 64 (.pointer (some s)))] } := rfl
  refine (lawCounts a b k1 k2 s W z1 z2 hs).mono fun e W' ⟨he, bel⟩ => ?_
  subst he
  have hv' : W'.var? Tryd.prog vn = some #[.iface 64 (.pointer (some s))] := by rw [var?_below bel gSent hs.lt.1]; exact hv
  refine ⟨_, rfl, _, _, _, [], [], [.cell 0 0], hW', ?_, ?_, ?_, bel.frame _, fun h => by cases h⟩
  · rw [e1]; exact trodAll_mk1 (shut_bool Tryd.underlying4 true)
  · rw [e1]; exact trodAll_mk4 (shut_int Tryd.underlying26 wa) (shut_int Tryd.underlying26 wb) (shut_int Tryd.underlying5 wk1) (shut_int Tryd.underlying5 wk2)
  · rw [e1]; exact vars_read1 enc gSent gSentType Tryd.underlying54 hv' trivial _

theorem over : Rows.FnTierFailedCountsAddUpInAnyOrderSaid :=
  OpenClaim.holds_of_wide 4 Tryd.f4 rfl rfl rfl rfl rfl rfl rfl ⟨rfl, rfl, rfl, rfl, rfl⟩ rfl rfl rfl rfl rfl (by kernel_rfl) Tryd.func4 (by kernel_rfl)
    (of_decide_eq_true (by kernel_rfl)) (by unfold Func.isWrapper; first | (rw [if_pos (by decide +kernel)]; kernel_rfl) | (rw [if_neg (by decide +kernel)]; exact ⟨rfl, rfl⟩))
    (fun os started H enc _ => lifted os started H enc)

theorem card : Rows.FnTierFailedCountsAddUpInAnyOrderCardSaid :=
  Claim7.holds_tied_plain_at .later [] [.sentinel] true Rows.fnTierFailedCountsAddUpInAnyOrderCard.stood.harness true
    over (fun _ h => by cases h) (by kernel_rfl) (fun _ h => by cases h) fnTierFailedCountsAddUpInAnyOrder_row_tie rfl ⟨rfl, rfl⟩ (by kernel_rfl) rfl
    (fun f fn hf hfn => by
      obtain rfl : f = 4 := Option.some.inj ((show Tryd.prog.funcNamed Rows.fnTierFailedCountsAddUpInAnyOrderRow.func = some 4 by kernel_rfl).symm.trans hf) |>.symm
      obtain rfl : fn = Tryd.f4 := (Option.some.inj (Tryd.func4.symm.trans hfn)).symm
      exact ⟨by kernel_rfl, fun j t ht => by
        rw [Tryd.params4] at ht
        have hm : t ∈ [26, 26, 5, 5] := by simpa using Array.mem_of_getElem? ht
        have hall : ([26, 26, 5, 5].all fun u => !Tryd.prog.wantsStandIn u) = true := by kernel_rfl
        exact (show Tryd.prog.wantsStandIn t = false by simpa using List.all_eq_true.1 hall t hm)⟩)
    (by kernel_rfl)
end Go.Proofs.Qxb6615062aDoor.Counts
namespace Go.Proofs.Qxb6615062aDoor
/-- THE STATEMENT -/
theorem tierFailedCountsAddUp_card : Rows.FnTierFailedCountsAddUpInAnyOrderCardSaid := Counts.card
end Go.Proofs.Qxb6615062aDoor
