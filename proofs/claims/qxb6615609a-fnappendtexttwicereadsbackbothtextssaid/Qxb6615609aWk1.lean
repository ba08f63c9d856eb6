/-
  THE WALKS (1): zzUvarint at one, two, three bytes.
-/
import Derived.Test.Qxb6615609aRows
import Derived.Test.Qxb6615609aPure
import Derived.WalkKit
import Derived.WalkSpells
import Derived.WalkLawsBesides
namespace Go.Proofs.Qxb6615609a
open Go.RowKit

set_option maxHeartbeats 400000 in
set_option maxRecDepth 100000 in
theorem read1 (b o l c : Nat) (y0 : Int) (w : World) (hl : 1 ≤ l) (p0 : 0 ≤ y0) (q0 : y0 < 128) (c0 : w.cell? ⟨b, o, none⟩ = some (.int .u8 y0)) :
    Calls Try.prog 14 #[.slice (some ⟨b, o, none⟩) l c] w fun e w' => e = .returned (.tuple #[.int .u64 y0, .int .i64 1]) ∧ w' = w := by
  have e0 := or_zero y0 p0 (by omega)
  go_enter Try.func14, Try.ntmps14
  go_wp2
  refine wp_loop_rounds 1 ?_
  rw [rounds_succ]
  go_wp2
  go_ret2
  exact ⟨rfl, rfl⟩

set_option maxHeartbeats 400000 in
set_option maxRecDepth 100000 in
theorem read2 (b o l c : Nat) (y0 y1 : Int) (w : World) (hl : 2 ≤ l) (p0 : 0 ≤ y0) (q0 : y0 < 128) (p1 : 0 ≤ y1) (q1 : y1 < 128) (c0 : w.cell? ⟨b, o, none⟩ = some (.int .u8 (y0 + 128))) (c1 : w.cell? ⟨b, o + 1, none⟩ = some (.int .u8 y1)) :
    Calls Try.prog 14 #[.slice (some ⟨b, o, none⟩) l c] w fun e w' => e = .returned (.tuple #[.int .u64 (y0 + y1 * 128), .int .i64 2]) ∧ w' = w := by
  have a0 := and_127 y0 p0 q0
  have e0 := or_zero y0 p0 (by omega)
  have e1 := or_7 y0 y1 p0 q0 p1 (by omega)
  go_enter Try.func14, Try.ntmps14
  go_wp2
  refine wp_loop_rounds 2 ?_
  rw [rounds_succ]
  go_wp2
  rw [rounds_succ]
  go_wp2
  go_ret2
  exact ⟨rfl, rfl⟩

set_option maxHeartbeats 400000 in
set_option maxRecDepth 100000 in
theorem read3 (b o l c : Nat) (y0 y1 y2 : Int) (w : World) (hl : 3 ≤ l) (p0 : 0 ≤ y0) (q0 : y0 < 128) (p1 : 0 ≤ y1) (q1 : y1 < 128) (p2 : 0 ≤ y2) (q2 : y2 < 128) (c0 : w.cell? ⟨b, o, none⟩ = some (.int .u8 (y0 + 128))) (c1 : w.cell? ⟨b, o + 1, none⟩ = some (.int .u8 (y1 + 128)))
    (c2 : w.cell? ⟨b, o + 2, none⟩ = some (.int .u8 y2)) :
    Calls Try.prog 14 #[.slice (some ⟨b, o, none⟩) l c] w fun e w' => e = .returned (.tuple #[.int .u64 (y0 + y1 * 128 + y2 * 16384), .int .i64 3]) ∧ w' = w := by
  have a0 := and_127 y0 p0 q0
  have a1 := and_127 y1 p1 q1
  have e0 := or_zero y0 p0 (by omega)
  have e1 := or_7 y0 y1 p0 q0 p1 (by omega)
  have e2 := or_14 (y0 + y1 * 128) y2 (by omega) (by omega) p2 (by omega)
  go_enter Try.func14, Try.ntmps14
  go_wp2
  refine wp_loop_rounds 3 ?_
  rw [rounds_succ]
  go_wp2
  rw [rounds_succ]
  go_wp2
  rw [rounds_succ]
  go_wp2
  go_ret2
  exact ⟨rfl, rfl⟩

/-- zzUvarint over the LEB128 of x, whatever follows. -/
theorem read_any (b o l c x : Nat) (w : World) (hx : x < 2097152) (hl : (uv x).length ≤ l) (hc : ∀ j, j < (uv x).length → w.cell? ⟨b, o + j, none⟩ = some (.int .u8 ((uv x).getD j 0))) :
    Calls Try.prog 14 #[.slice (some ⟨b, o, none⟩) l c] w fun e w' => e = .returned (.tuple #[.int .u64 x, .int .i64 (uv x).length]) ∧ w' = w := by
  by_cases h : x < 128
  · rw [uv1 h] at hc hl ⊢
    have k0 := hc 0 (by simp)
    simp at hl k0
    exact read1 b o l c x w hl (by omega) (by omega) k0
  · by_cases g : x < 16384
    · rw [uv2 h g] at hc hl ⊢
      have k0 := hc 0 (by simp)
      have k1 := hc 1 (by simp)
      simp at hl k0 k1
      have := read2 b o l c ((x : Int) % 128) ((x : Int) / 128) w (by omega) (by omega) (by omega) (by omega) (by omega) k0 k1
      rw [show (x : Int) % 128 + (x : Int) / 128 * 128 = x by omega] at this
      exact this
    · rw [uv3 g] at hc hl ⊢
      have k0 := hc 0 (by simp)
      have k1 := hc 1 (by simp)
      have k2 := hc 2 (by simp)
      simp at hl k0 k1 k2
      have := read3 b o l c ((x : Int) % 128) ((x : Int) / 128 % 128) ((x : Int) / 16384) w (by omega) (by omega) (by omega) (by omega) (by omega) (by omega) (by omega) k0 k1 k2
      rw [show (x : Int) % 128 + (x : Int) / 128 % 128 * 128 + (x : Int) / 16384 * 16384 = x by omega] at this
      exact this

end Go.Proofs.Qxb6615609a
