/-
  THE WALKS (3): Less.
-/
import Derived.Test.Qxb6615586aWk2
namespace Go.Proofs.Qxb6615586a
open Go.RowKit

set_option maxHeartbeats 2000000 in
theorem less_any (b i j qi qj : Nat) (ki kj : ByteArray) (ni nj : Int) (w : World) (hi : i < 3) (hj : j < 3)
    (ci : w.cell? ⟨b, i, none⟩ = some (.pointer (some ⟨qi, 0, none⟩))) (cj : w.cell? ⟨b, j, none⟩ = some (.pointer (some ⟨qj, 0, none⟩))) (ei : Exp w qi ki ni) (ej : Exp w qj kj nj) :
    Calls Try.prog 11 #[.slice (some ⟨b, 0, none⟩) 3 3, .int .i64 i, .int .i64 j] w fun e w' => e = .returned (.bool (Pure.before ni ki nj kj)) ∧ Below w.heap.size w w' := by
  obtain ⟨i0, i1, i2, i3⟩ := ei
  obtain ⟨j0, j1, j2, j3⟩ := ej
  have bi : (0 : Int) ≤ (i : Int) := by omega
  have bi' : (i : Int) < 3 := by omega
  have bj : (0 : Int) ≤ (j : Int) := by omega
  have bj' : (j : Int) < 3 := by omega
  go_enter Try.func11, Try.ntmps11
  go_wp2_with fail
  go_region_held3 (fun w' => w'.cell? ⟨b, i, none⟩ = some (.pointer (some ⟨qi, 0, none⟩)) ∧ w'.cell? ⟨b, j, none⟩ = some (.pointer (some ⟨qj, 0, none⟩)) ∧
      w'.cell? ⟨qi, 0, none⟩ = some (.string ki) ∧ w'.cell? ⟨qi, 1, none⟩ = some (.int .u64 (ni % 1000000000)) ∧ w'.cell? ⟨qi, 2, none⟩ = some (.int .i64 (ni / 1000000000)) ∧ w'.cell? ⟨qi, 3, none⟩ = some (.pointer none) ∧
      w'.cell? ⟨qj, 0, none⟩ = some (.string kj) ∧ w'.cell? ⟨qj, 1, none⟩ = some (.int .u64 (nj % 1000000000)) ∧ w'.cell? ⟨qj, 2, none⟩ = some (.int .i64 (nj / 1000000000)) ∧ w'.cell? ⟨qj, 3, none⟩ = some (.pointer none))
    (first | (go_keep; done) | (go_split_ands; refine ⟨?_, ?_, ?_, ?_, ?_, ?_, ?_, ?_, ?_, ?_⟩ <;> exact cell_later hb1 (by assumption)))
    (first
      | (go_at_call 16; refine (compareT_any ni nj _).mono ?_; rintro e w1 ⟨rfl, hb1⟩)
      | (go_at_call 17; refine (compare_any ki kj _).mono ?_; rintro e w2 ⟨rfl, rfl⟩)
      | (go_at_call 15; refine (or_any _ (Pure.cmpT ni nj) (Lib.compareBytes ki.data.toList kj.data.toList) _ (by simp) (by simp)).mono ?_; rintro e w3 ⟨rfl, rfl⟩))
  have hb : Below w.heap.size w w2 := (Below.refl w.heap.size w).drew.trans hb1
  go_wp2
  go_ret
  refine ⟨?_, hb.alloc hb.size _⟩
  rw [← Pure.or_before]
  rfl

end Go.Proofs.Qxb6615586a
