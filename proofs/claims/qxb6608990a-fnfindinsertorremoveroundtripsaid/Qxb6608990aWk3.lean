/-
  THE WALKS (3): pfProfiles: a row of pointers, a block a round.
-/
import Derived.Test.Qxb6608990aWk1
import Derived.Test.Qxb6608990aWk2
import Derived.Deep.OwnRows
namespace Go.Proofs.Qxb6608990a
open Go.RowKit

theorem Try.info57 : (Try.prog.info? 57).map (fun i => (i.zero, i.size, i.bytes)) = some (some (.pointer none), 1, 8) := by kernel_rfl

theorem prof_step {w wr : World} {n k : Nat} {S : Nat → ByteArray} (o : Obj) (hk : k < n) (hsz : wr.heap.size = w.heap.size + 1 + k)
    (ho : ∀ x : World, (x.alloc o).cell? ⟨x.heap.size, 0, none⟩ = some (.string (S k)))
    (hrow : wr.rowIs w.heap.size 57 n (fun j => if j < k then .pointer (some ⟨w.heap.size + 1 + j, 0, none⟩) else .pointer none))
    (hstr : ∀ j, j < k → wr.cell? ⟨w.heap.size + 1 + j, 0, none⟩ = some (.string (S j))) (hbel : Below w.heap.size w wr) :
    ((wr.alloc o).setCell ⟨w.heap.size, k, none⟩ (.pointer (some ⟨w.heap.size + 1 + k, 0, none⟩))).heap.size = w.heap.size + 1 + (k + 1) ∧
    ((wr.alloc o).setCell ⟨w.heap.size, k, none⟩ (.pointer (some ⟨w.heap.size + 1 + k, 0, none⟩))).rowIs w.heap.size 57 n (fun j => if j < k + 1 then .pointer (some ⟨w.heap.size + 1 + j, 0, none⟩) else .pointer none) ∧
    (∀ j, j < k + 1 → ((wr.alloc o).setCell ⟨w.heap.size, k, none⟩ (.pointer (some ⟨w.heap.size + 1 + k, 0, none⟩))).cell? ⟨w.heap.size + 1 + j, 0, none⟩ = some (.string (S j))) ∧
    Below w.heap.size w ((wr.alloc o).setCell ⟨w.heap.size, k, none⟩ (.pointer (some ⟨w.heap.size + 1 + k, 0, none⟩))) := by
  refine ⟨by simp [hsz]; omega, ((hrow.alloc o).set k _).congr fun j hj => ?_, fun j hj => ?_, (hbel.alloc hbel.size o).setCell (Nat.le_refl _) _⟩
  · show (if j = k then _ else if j < k then _ else _) = _
    by_cases e : j = k
    · subst e; simp
    · by_cases e2 : j < k
      · simp [e, e2, show j < k + 1 by omega]
      · simp [e, e2, show ¬ j < k + 1 by omega]
  · rw [World.cell?_of_block (w := wr.alloc o) (Deep.blk_setCell_other _ _ _ _ (by simp; omega))]
    by_cases e : j = k
    · subst e; rw [← hsz]; exact ho wr
    · rw [World.cell?_of_block (w := wr) (Deep.blk_alloc_lt _ _ _ (by simp; omega))]
      exact hstr j (by omega)

set_option maxHeartbeats 400000 in
theorem profiles_none (a : Option Addr) (cap : Nat) (S : Nat → ByteArray) (w : World) :
    Calls Try.prog 13 #[.slice a 0 cap] w fun e w' => e = .returned (.slice (some ⟨w.heap.size, 0, none⟩) 0 0) ∧ ProfRow w' (some ⟨w.heap.size, 0, none⟩) 0 S ∧ Below w.heap.size w w' := by
  have hmk : ∀ w : World, (Instr.makeSlice 49 (.int .i64 0) (.int .i64 0)).run Try.prog w = .ok (.slice (some ⟨w.heap.size, 0, none⟩) 0 0) (w.alloc (.cells (madeCells #[.pointer none] 0) 57)) :=
    run_make_row' (P := Try.prog) 49 57 (.pointer none) 8 Try.underlying49 Try.info57 rfl .i64 .i64 0 (by omega) (by omega)
  go_enter Try.func13, Try.ntmps13
  go_wp2
  refine wp_loop_rounds 1 ?_; rw [rounds_succ]; go_wp2
  go_ret
  exact ⟨rfl, .inl rfl, (Below.refl _ _).alloc (Nat.le_refl _) _⟩

set_option maxHeartbeats 400000 in
theorem profiles_any (a : Option Addr) (n cap : Nat) (S : Nat → ByteArray) (w : World) (hn : n ≤ 2097152) (hr : StrRow w a n S) :
    Calls Try.prog 13 #[.slice a n cap] w fun e w' => e = .returned (.slice (some ⟨w.heap.size, 0, none⟩) n n) ∧ ProfRow w' (some ⟨w.heap.size, 0, none⟩) n S ∧ Below w.heap.size w w' := by
  rcases hr with rfl | ⟨b, off, rfl, hb, hc⟩
  · exact profiles_none a cap S w
  · have hmk := run_make_row' (P := Try.prog) 49 57 (.pointer none) 8 Try.underlying49 Try.info57 rfl .i64 .i64 n (by omega) (by omega)
    go_enter Try.func13, Try.ntmps13
    go_wp2
    go_loopw [4] (fun i wr => ∃ k : Nat, k ≤ n ∧ i = .int .i64 k ∧ wr.heap.size = w.heap.size + 1 + k ∧ wr.rowIs w.heap.size 57 n (fun j => if j < k then .pointer (some ⟨w.heap.size + 1 + j, 0, none⟩) else .pointer none) ∧
        (∀ j, j < k → wr.cell? ⟨w.heap.size + 1 + j, 0, none⟩ = some (.string (S j))) ∧ Below w.heap.size w wr) (fun i _ => n - (intOf i).toNat)
    case atStart => exact ⟨0, by omega, rfl, by simp, (World.rowIs_made w _ n 57).congr fun i _ => by simp, fun j h => by omega, (Below.refl _ _).alloc (Nat.le_refl _) _⟩
    case round =>
      obtain ⟨k, hk, rfl, hsz, hrow, hstr, hbel⟩ := hrel
      by_cases hkn : k < n
      · have hcell : wr.cell? ⟨b, off + k, none⟩ = some (.string (S k)) := (hbel.cell (by exact hb)).trans (hc k hkn)
        have hcs : ∀ o, (wr.alloc o).cell? ⟨w.heap.size, k, none⟩ = some (.pointer none) := fun o => by rw [(hrow.alloc o).cell hkn]; simp
        have hfz : ∀ o, (wr.alloc o).frozen? ⟨w.heap.size, k, none⟩ = false := fun o => (hrow.alloc o).frozen k
        have HR : Hid (wr.rowIs w.heap.size 57 n (fun j => if j < k then .pointer (some ⟨w.heap.size + 1 + j, 0, none⟩) else .pointer none)) := hrow
        have HB : Hid (∀ j, j < k → wr.cell? ⟨w.heap.size + 1 + j, 0, none⟩ = some (.string (S j))) := hstr
        clear hrow hstr
        go_wp2
        go_roundw
        case rel =>
          refine ⟨k + 1, by omega, by go_num, ?_⟩
          refine prof_step _ hkn hsz ?_ HR.out HB.out hbel
          intro x
          simp
        case measure => simp [intOf]; omega
      · have hk' : k = n := by omega
        subst hk'
        go_wp2
        go_ret
        refine ⟨rfl, .inr ⟨w.heap.size, 0, fun j => w.heap.size + 1 + j, rfl, fun i hi => ?_, hstr⟩, hbel⟩
        rw [Nat.zero_add, hrow.cell hi, if_pos hi]

end Go.Proofs.Qxb6608990a
