/-
  THE ROW of FnTierFailedSortsEveryFailure, proved, and its TIED CARD.
-/
import Derived.Test.Qxb6615062aDoorLaid
import Derived.Test.Qxb6615062aDoorWk6
import Derived.Test.Qxb6615062aDoorTie
import Derived.Test.Qxb6615062aDoorCards
import Derived.OpenShut
import Derived.Below
import Derived.Carry
import Derived.SevenTiedAt
namespace Go.Proofs.Qxb6615062aDoor.Sorts
open Go.ChangeShapes Go.WideShapes Go.ChangeAt Go.RowKit
set_option linter.unusedVariables false

theorem add_plain (b o i : Nat) : (Addr.mk b o none).add i = ⟨b, o + i, none⟩ := by simp [Addr.add]
/-- From what 'open_ints' hands over to what the walk asks. -/
theorem row_of {W : World} {a : Addr} {len : Nat} {zs : List Int} (hl : len ≤ zs.length) (hcell : ∀ i, i < zs.length → W.cell? (a.add i) = some (.int .u8 (zs.getD i 0))) (hw : ∀ z ∈ zs, (Lit.int .u8 z).wf = true) :
    ByteRow W (some a) len (fun i => zs.getD i 0) := by
  by_cases h0 : len = 0
  · exact .inl h0
  · obtain ⟨b, off, spot⟩ := a
    have hspot : spot = none := by simpa [Addr.add] using World.cell?_spot (hcell 0 (by omega))
    subst hspot
    refine .inr ⟨b, off, rfl, ?_, fun i hi => ⟨by rw [← add_plain]; exact hcell i (by omega), ?_⟩⟩
    · have h := hcell 0 (by omega)
      rw [add_plain] at h
      exact World.block_lt_of_cell? W _ h
    · have hi' : i < zs.length := by omega
      have hm : zs.getD i 0 ∈ zs := by rw [List.getD_eq_getElem?_getD, List.getElem?_eq_getElem hi']; exact List.getElem_mem hi'
      exact (bounds_u8 (hw _ hm)).1

set_option maxRecDepth 100000 in
theorem lifted (os : Os) (started : os.Started) (H : Type) (enc : TypeId × Value → H) :
    ReturnsInHanded {} Tryd.checked os 3 .any (fun w args => (Rows.fnTierFailedSortsEveryFailureSpec.pre enc Tryd.prog Tryd.f3 [] false w args ∧ laidMet Tryd.prog Rows.fnTierFailedSortsEveryFailureRow.laid w) ∧
        sizedMet enc Tryd.prog Tryd.f3 (OpenSpec.ofChange Rows.fnTierFailedSortsEveryFailureSpec) false w args)
      (Rows.fnTierFailedSortsEveryFailureSpec.post enc Tryd.prog Tryd.f3 false true false false) := by
  refine returnsInHanded_of_change_and (C := Tryd.checked) (X := fun w _ => laidMet Tryd.prog Rows.fnTierFailedSortsEveryFailureRow.laid w) (fun _ _ _ hh h => h.of_heap hh) own started (by kernel_rfl) Tryd.func3
    (ChangeSpec.witness_at (enc := enc) (C := Tryd.checked) (os := os) (X := fun w _ => laidMet Tryd.prog Rows.fnTierFailedSortsEveryFailureRow.laid w) false
      (let w0 := World.holding Tryd.prog os ⟨#[.cells #[.string { data := #[104, 97, 116, 111, 58, 32, 116, 104, 101, 32, 102, 108, 101, 101, 116, 32, 116, 105, 101, 114, 32, 100, 105, 100, 32, 110, 111, 116, 32, 97, 110, 115, 119, 101, 114, 32, 105, 110, 32, 116, 105, 109, 101] }] 66], #[], []⟩
       { w0 with heap := w0.heap.modify 0 fun
          | .cells _ t frozen => .cells #[.iface 64 (.pointer (some ⟨(World.holding Tryd.prog default ⟨#[], #[], []⟩).heap.size, 0, none⟩))] t frozen
          | o => o })
      #[.slice none 0 0] 8 rfl (by kernel_rfl) (by kernel_rfl) (by kernel_rfl) (by kernel_rfl) (by kernel_rfl)
      (laidMet_of_run (ps := [.cell 0 0, .cell (World.holding Tryd.prog default ⟨#[], #[], []⟩).heap.size 0]) 8 (by kernel_rfl) (by kernel_rfl) (by kernel_rfl))) ?_
  intro W base args ds gs before hval0 hW _ _ hL _
  have hval : ∀ (j : Nat) t v, Tryd.f3.params[j]? = some t → args[j]? = some v → Value.okWide Tryd.prog W .any base t v := hval0
  have hW' := hW
  obtain ⟨p, q, hA0, hV0, rfl, hfz, hnd⟩ := hW
  have hA : DataW.TrodAll enc Tryd.prog W 0 (fun _ => true) true Tryd.f3.params.toList args.toList ds p := hA0
  have hV : DataW.TrodVars enc Tryd.prog W (fun _ => true) [vn] gs q := hV0
  rw [Tryd.params3] at hA hval
  obtain ⟨v0, d0, rfl, rfl, h0⟩ := trodAll_one hA
  obtain ⟨a0, len0, cap0, rfl⟩ := okWide_slice Tryd.underlying22 (hval 0 22 v0 rfl rfl)
  have k0 := h0
  have lt0 : ∀ x ∈ p, x.block < W.heap.size := by obtain ⟨m, hm⟩ := k0; exact DataW.trod_lt m _ _ _ hm
  obtain ⟨Z, w0, wl⟩ : ∃ Z, ByteRow W a0 len0 Z ∧ len0 ≤ maxLen := by
    obtain ⟨fuel, hf⟩ := h0
    rcases open_ints Tryd.underlying22 Tryd.underlying5 (by kernel_rfl) hf with ⟨hcs, _⟩ | ⟨x, l, c, zs, hcs, _, hl, hm, hz, _, hcell, hwz⟩
    · simp [Value.cells] at hcs
      obtain ⟨rfl, rfl, rfl⟩ := hcs
      exact ⟨fun _ => 0, .inl rfl, by simp⟩
    · simp [Value.cells] at hcs
      obtain ⟨rfl, rfl, rfl⟩ := hcs
      exact ⟨_, row_of (by simp at hz; omega) hcell hwz, by omega⟩
  obtain ⟨s, hv, hs⟩ := sentinel_of_laid hL
  obtain ⟨rfl, rfl⟩ := hV.unique (vars_read1 enc gSent gSentType Tryd.underlying54 hv trivial _)
  clear hA0 hV0 hval0
  have e1 : Rows.fnTierFailedSortsEveryFailureSpec.fn H ([d0] ++ [tok enc (.iface 64 (.pointer (some s)))]) =
      { results := [.lit (.bool true)], args := [d0], vars := [tok enc (.iface 64 (.pointer (some s)))] } := rfl
  refine (lawSorts a0 len0 cap0 Z s W wl w0 hs).mono fun e W' ⟨he, bel⟩ => ?_
  subst he
  have hv' : W'.var? Tryd.prog vn = some #[.iface 64 (.pointer (some s))] := by rw [var?_below bel gSent hs.lt.1]; exact hv
  refine ⟨_, rfl, _, _, _, [], p, [.cell 0 0], hW', ?_, ?_, ?_, bel.frame _, fun h => by cases h⟩
  · rw [e1]; exact trodAll_mk1 (shut_bool Tryd.underlying4 true)
  · rw [e1]; exact trodAll_mk1 (Below.trod laidOut (by kernel_rfl) (of_decide_eq_true (by kernel_rfl)) k0 bel lt0)
  · rw [e1]; exact vars_read1 enc gSent gSentType Tryd.underlying54 hv' trivial _

theorem over : Rows.FnTierFailedSortsEveryFailureSaid :=
  OpenClaim.holds_of_wide 3 Tryd.f3 rfl rfl rfl rfl rfl rfl rfl ⟨rfl, rfl, rfl, rfl, rfl⟩ rfl rfl rfl rfl rfl (by kernel_rfl) Tryd.func3 (by kernel_rfl)
    (of_decide_eq_true (by kernel_rfl)) (by unfold Func.isWrapper; first | (rw [if_pos (by decide +kernel)]; kernel_rfl) | (rw [if_neg (by decide +kernel)]; exact ⟨rfl, rfl⟩))
    (fun os started H enc _ => lifted os started H enc)

theorem card : Rows.FnTierFailedSortsEveryFailureCardSaid :=
  Claim7.holds_tied_plain_at .later [] [.sentinel] true Rows.fnTierFailedSortsEveryFailureCard.stood.harness true
    over (fun _ h => by cases h) (by kernel_rfl) (fun _ h => by cases h) fnTierFailedSortsEveryFailure_row_tie rfl ⟨rfl, rfl⟩ (by kernel_rfl) rfl
    (fun f fn hf hfn => by
      obtain rfl : f = 3 := Option.some.inj ((show Tryd.prog.funcNamed Rows.fnTierFailedSortsEveryFailureRow.func = some 3 by kernel_rfl).symm.trans hf) |>.symm
      obtain rfl : fn = Tryd.f3 := (Option.some.inj (Tryd.func3.symm.trans hfn)).symm
      exact ⟨by kernel_rfl, fun j t ht => by
        rw [Tryd.params3] at ht
        have hm : t ∈ [22] := by simpa using Array.mem_of_getElem? ht
        have hall : ([22].all fun u => !Tryd.prog.wantsStandIn u) = true := by kernel_rfl
        exact (show Tryd.prog.wantsStandIn t = false by simpa using List.all_eq_true.1 hall t hm)⟩)
    (by kernel_rfl)
end Go.Proofs.Qxb6615062aDoor.Sorts
namespace Go.Proofs.Qxb6615062aDoor
/-- THE STATEMENT -/
theorem tierFailedSortsEvery_card : Rows.FnTierFailedSortsEveryFailureCardSaid := Sorts.card
end Go.Proofs.Qxb6615062aDoor
