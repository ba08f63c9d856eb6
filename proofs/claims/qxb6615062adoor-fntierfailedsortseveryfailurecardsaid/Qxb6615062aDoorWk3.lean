/-
  THE WALKS (3): errors.Join.
-/
import Derived.Test.Qxb6615062aDoorWk2
namespace Go.Proofs.Qxb6615062aDoor
open Go.RowKit Go.Extern.Stop Go.Stop Go.Extern

theorem Tryd.info54 : (Tryd.prog.info? 54).map (fun i => (i.zero, i.size, i.bytes)) = some (some .nilIface, 1, 16) := by kernel_rfl

set_option maxRecDepth 100000 in
theorem join_any (b0 c : Nat) (s : Addr) (w : World) (h : w.cell? ⟨b0, 0, none⟩ = some (.iface 64 (.pointer (some s)))) (hlt : b0 < w.heap.size) :
    Calls Tryd.prog 16 #[.slice (some ⟨b0, 0, none⟩) 1 c] w fun e w' => ∃ q g c', e = .returned (.iface 61 (.pointer (some ⟨q, 0, none⟩))) ∧ w'.cell? ⟨q, 0, none⟩ = some (.slice (some ⟨g, 0, none⟩) 1 c') ∧
      w'.cell? ⟨g, 0, none⟩ = some (.iface 64 (.pointer (some s))) ∧ Below w.heap.size w w' := by
  have hmk : ∀ w : World, (Instr.makeSlice 60 (.int .i64 0) (.int .i64 1)).run Tryd.prog w = .ok (.slice (some ⟨w.heap.size, 0, none⟩) 0 1) (w.alloc (.cells #[.nilIface] 54)) := fun _ => by kernel_rfl
  go_enter Tryd.func16, Tryd.ntmps16
  go_wp2
  refine wp_loop_rounds 2 ?_
  rw [rounds_succ]
  go_wp2
  rw [rounds_succ]
  go_wp2
  refine wp_loop_rounds 2 ?_
  rw [rounds_succ]
  go_wp2
  rw [rounds_succ]
  go_wp2
  go_ret
  refine ⟨w.heap.size + 1, w.heap.size, 1, rfl, ?_, ?_, ?_⟩
  · rw [World.cell?_alloc_lt _ _ ⟨w.heap.size + 1, 0, none⟩ (by simp)]; simp
  · rw [World.cell?_alloc_lt _ _ ⟨w.heap.size, 0, none⟩ (by simp; omega), World.cell?_alloc_lt _ _ ⟨w.heap.size, 0, none⟩ (by simp)]; simp
  · exact (((Below.refl _ _).alloc (Nat.le_refl _) _).alloc (by simp) _).alloc (by simp; omega) _

end Go.Proofs.Qxb6615062aDoor
