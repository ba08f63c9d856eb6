/-
  THE WALKS (1): sync/atomic's Uint64; the counters.
-/
import Derived.Test.Qxb6615062aDoorRows
import Derived.WalkKit
import Derived.WalkSpells
import Derived.WalkLawsBesides
import Derived.Laws.LoneSync
import Derived.Deep.QuietTactic
import Derived.BigQuiet
import Derived.Deep.RegionWith
namespace Go.Proofs.Qxb6615062aDoor
open Go.RowKit

theorem store_any (b o : Nat) (u : Value) (v : Int) (w : World) (hc : w.cell? ⟨b, o, none⟩ = some u) (hz : w.frozen? ⟨b, o, none⟩ = false) :
    Calls Tryd.prog 9 #[.pointer (some ⟨b, o, none⟩), .int .u64 v] w fun e w' => e = .returned (.tuple #[]) ∧ w' = w.setCell ⟨b, o, none⟩ (.int .u64 v) := by
  have h14 := run_call_store Tryd.func14 (by kernel_rfl) (by kernel_rfl) (by kernel_rfl) (by kernel_rfl) (k := .u64) (y := v) hc hz
  go_enter Tryd.func9, Tryd.ntmps9
  go_wp2
  go_end0
  exact ⟨rfl, rfl⟩

theorem load_any (b o : Nat) (v : Int) (w : World) (hc : w.cell? ⟨b, o, none⟩ = some (.int .u64 v)) :
    Calls Tryd.prog 13 #[.pointer (some ⟨b, o, none⟩)] w fun e w' => e = .returned (.int .u64 v) ∧ w' = w := by
  have h18 := run_call_load Tryd.func18 (by kernel_rfl) (by kernel_rfl) (by kernel_rfl) .u64 (by kernel_rfl) hc
  go_enter Tryd.func13, Tryd.ntmps13
  go_wp2
  go_ret
  exact ⟨rfl, rfl⟩

theorem add_any (b o : Nat) (x : Int) (w : World) (hc : w.cell? ⟨b, o, none⟩ = some (.int .u64 x)) (hz : w.frozen? ⟨b, o, none⟩ = false) :
    Calls Tryd.prog 20 #[.pointer (some ⟨b, o, none⟩), .int .u64 1] w fun e w' => e = .returned (.int .u64 (IntKind.u64.wrap (x + 1))) ∧ w' = w.setCell ⟨b, o, none⟩ (.int .u64 (IntKind.u64.wrap (x + 1))) := by
  have h23 := run_call_add Tryd.func23 (by kernel_rfl) (by kernel_rfl) (by kernel_rfl) .u64 (by kernel_rfl) hc hz (y := 1) (s := IntKind.u64.wrap (x + 1)) (by simp [Op.intArith])
  go_enter Tryd.func20, Tryd.ntmps20
  go_wp2
  go_ret
  exact ⟨rfl, rfl⟩

/-- THE COUNTERS in block p: tierErrors x, tierTimeouts y, tierSkips 0. -/
def Ctr (w : World) (p : Nat) (x y : Int) : Prop :=
  w.cell? ⟨p, 14, none⟩ = some (.int .u64 x) ∧ w.cell? ⟨p, 15, none⟩ = some (.int .u64 y) ∧ w.cell? ⟨p, 16, none⟩ = some (.int .u64 0) ∧ w.frozen? ⟨p, 14, none⟩ = false ∧ w.frozen? ⟨p, 15, none⟩ = false

theorem new_any (a b : Int) (w : World) :
    Calls Tryd.prog 6 #[.int .u64 a, .int .u64 b] w fun e w' => e = .returned (.pointer (some ⟨w.heap.size, 0, none⟩)) ∧ Ctr w' w.heap.size a b ∧ Below w.heap.size w w' ∧ w'.heap.size = w.heap.size + 1 := by
  go_enter Tryd.func6, Tryd.ntmps6
  go_wp2_with fail
  refine (store_any w.heap.size 14 (.int .u64 0) a _ (by simp) (by simp)).mono ?_
  rintro e w1 ⟨rfl, rfl⟩
  go_wp2_with fail
  refine (store_any w.heap.size 15 (.int .u64 0) b _ (by simp) (by simp)).mono ?_
  rintro e w1 ⟨rfl, rfl⟩
  go_wp2
  go_ret
  refine ⟨rfl, ⟨by simp, by simp, by simp, by simp, by simp⟩, ?_, by simp⟩
  first
  | exact (((Below.refl _ _).alloc (Nat.le_refl _) _).setCell (Nat.le_refl _) _).setCell (Nat.le_refl _) _
  | exact (Below.refl _ _).alloc (Nat.le_refl _) _

theorem counts_any (p : Nat) (x y : Int) (w : World) (h : Ctr w p x y) :
    Calls Tryd.prog 8 #[.pointer (some ⟨p, 0, none⟩)] w fun e w' => e = .returned (.tuple #[.int .u64 x, .int .u64 y, .int .u64 0]) ∧ ∃ n, w' = w.drewN n := by
  obtain ⟨h1, h2, h3, _, _⟩ := h
  go_enter Tryd.func8, Tryd.ntmps8
  go_wp2_with fail
  go_quiet ((go_at_call 13; apply Calls.quiet_of_same; apply load_any; first | exact h1 | exact h2 | exact h3))
  go_wp2
  go_ret3
  exact ⟨rfl, _, rfl⟩

end Go.Proofs.Qxb6615062aDoor
