/-
  THE WALKS (4): zzCloneBytes.
-/
import Derived.Test.Qxb6615609aWk3
namespace Go.Proofs.Qxb6615609a
open Go.RowKit

theorem clone_nil (w : World) : Calls Try.prog 10 #[.slice none 0 0] w fun e w' => e = .returned (.slice none 0 0) ∧ w' = w := by
  have hn := fun wx : World => Lib.run_eql_slice_nil (P := Try.prog) wx 28 5 none 0 0 0 0 Try.underlying28
  go_enter Try.func10, Try.ntmps10
  go_wp2
  go_ret
  exact ⟨rfl, rfl⟩

/-- n bytes behind an address that is not nil. -/
def Bytes (w : World) (x : Addr) (n : Nat) (Z : Nat → Int) : Prop :=
  n = 0 ∨ ∃ b off : Nat, x = ⟨b, off, none⟩ ∧ b < w.heap.size ∧ ∀ i, i < n → w.cell? ⟨b, off + i, none⟩ = some (.int .u8 (Z i))

theorem own_of_row {w : World} {B b n : Nat} {Z : Nat → Int} (hB : B ≤ b) (hn : n ≤ 4194304) (h : w.rowIs b 5 n (fun j => .int .u8 (Z j))) :
    w.ownsRow B 5 1 (.slice (some ⟨b, 0, none⟩) n n) n (cellsOf ((List.range n).map Z)) := by
  obtain ⟨c, hb, hs, hc⟩ := h
  refine ⟨by simp [cellsOf], .inr ⟨b, n, c, rfl, hB, hb, Nat.le_refl _, by unfold maxLen; omega, by omega, ?_⟩⟩
  apply List.ext_getElem?
  intro i
  rw [List.getElem?_take]
  by_cases hi : i < n * 1
  · rw [if_pos hi]
    have := hc i (by omega)
    simp only [cellsOf, List.map_map]
    rw [List.getElem?_map, List.getElem?_range (by omega)]
    simpa using this
  · rw [if_neg hi, List.getElem?_eq_none (by simp [cellsOf]; omega)]

set_option maxHeartbeats 400000 in
theorem clone_some (B : Nat) (x : Addr) (n cap : Nat) (Z : Nat → Int) (w : World) (hB : B ≤ w.heap.size) (hn : n ≤ 1048576) (hr : Bytes w x n Z) :
    Calls Try.prog 10 #[.slice (some x) n cap] w fun e w' => e = .returned (.slice (some ⟨w.heap.size, 0, none⟩) n n) ∧ w'.ownsRow B 5 1 (.slice (some ⟨w.heap.size, 0, none⟩) n n) n (cellsOf ((List.range n).map Z)) ∧ Below w.heap.size w w' ∧ w'.heap.size = w.heap.size + 1 := by
  rcases hr with rfl | ⟨b, off, rfl, hb, hc⟩
  · have hne := fun wx : World => Lib.run_eql_slice_nil (P := Try.prog) wx 28 5 (some x) 0 cap 0 0 Try.underlying28
    have hmk : ∀ w : World, (Instr.makeSlice 28 (.int .i64 0) (.int .i64 0)).run Try.prog w = .ok (.slice (some ⟨w.heap.size, 0, none⟩) 0 0) (w.alloc (.cells (madeCells #[.int .u8 0] 0) 5)) :=
      run_make_row' (P := Try.prog) 28 5 (.int .u8 0) 1 Try.underlying28 Try.info5 rfl .i64 .i64 0 (by omega) (by omega)
    go_enter Try.func10, Try.ntmps10
    go_wp2
    refine wp_loop_rounds 1 ?_; rw [rounds_succ]; go_wp2
    go_ret
    exact ⟨rfl, own_of_row hB (by omega) ((World.rowIs_made w _ 0 5).congr fun i h => by omega), (Below.refl _ _).alloc (Nat.le_refl _) _, by simp⟩
  · have hne := fun wx : World => Lib.run_eql_slice_nil (P := Try.prog) wx 28 5 (some ⟨b, off, none⟩) n cap 0 0 Try.underlying28
    have hmk := run_make_row' (P := Try.prog) 28 5 (.int .u8 0) 1 Try.underlying28 Try.info5 rfl .i64 .i64 n (by omega) (by omega)
    go_enter Try.func10, Try.ntmps10
    go_wp2
    go_loopw [4] (fun i wr => ∃ k : Nat, k ≤ n ∧ i = .int .i64 k ∧ wr.heap.size = w.heap.size + 1 ∧ wr.rowIs w.heap.size 5 n (fun j => .int .u8 (if j < k then Z j else 0)) ∧ Below w.heap.size w wr) (fun i _ => n - (intOf i).toNat)
    case atStart => exact ⟨0, by omega, rfl, by simp, (World.rowIs_made w _ n 5).congr fun i _ => by simp, (Below.refl _ _).alloc (Nat.le_refl _) _⟩
    case round =>
      obtain ⟨k, hk, rfl, hsz, hrow, hbel⟩ := hrel
      by_cases hkn : k < n
      · have hcell : wr.cell? ⟨b, off + k, none⟩ = some (.int .u8 (Z k)) := (hbel.cell (by exact hb)).trans (hc k hkn)
        have hcs : wr.cell? ⟨w.heap.size, k, none⟩ = some (.int .u8 0) := by rw [hrow.cell hkn]; simp
        have hfz : wr.frozen? ⟨w.heap.size, k, none⟩ = false := hrow.frozen k
        have HR : Hid (wr.rowIs w.heap.size 5 n (fun j => .int .u8 (if j < k then Z j else 0))) := hrow
        clear hrow
        go_wp2
        go_roundw
        case rel =>
          refine ⟨k + 1, by omega, by go_num, by simp [hsz], (HR.out.set k _).congr fun j hj => ?_, hbel.setCell (Nat.le_refl _) _⟩
          by_cases e : j = k
          · subst e; simp
          · by_cases e2 : j < k
            · simp [e, e2, show j < k + 1 by omega]
            · simp [e, e2, show ¬ j < k + 1 by omega]
        case measure => simp [intOf]; omega
      · have hk' : k = n := by omega
        subst hk'
        have ho := own_of_row hB (by omega) (hrow.congr (g := fun j => .int .u8 (Z j)) fun j hj => by simp [hj])
        clear hrow
        go_wp2
        go_ret
        exact ⟨rfl, ho, hbel, hsz⟩

end Go.Proofs.Qxb6615609a
