/-
  THE WALKS (5): zzReadText.
-/
import Derived.Test.Qxb6615609aWk4
import Derived.Deep.QuietTactic
import Derived.BigQuiet
namespace Go.Proofs.Qxb6615609a
open Go.RowKit

theorem uv_last (x : Nat) (h : 1 < (uv x).length) : (uv x).getD ((uv x).length - 1) 0 ≠ 0 := by
  by_cases a : x < 128
  · rw [uv1 a] at h; simp at h
  · by_cases b : x < 16384
    · rw [uv2 a b]; simp; omega
    · rw [uv3 b]; simp; omega
theorem text_head (t : ByteArray) {j : Nat} (h : j < (uv t.size).length) : (text t).getD j 0 = (uv t.size).getD j 0 := by
  simp only [text, List.getD_eq_getElem?_getD]
  rw [List.getElem?_append_left h]
theorem text_tail (t : ByteArray) {k : Nat} (h : k < t.size) : (text t).getD ((uv t.size).length + k) 0 = ((t[k]'h).toNat : Int) := by
  simp only [text, List.getD_eq_getElem?_getD]
  rw [List.getElem?_append_right (by omega), Nat.add_sub_cancel_left]
  have h' : k < t.data.size := h
  simp only [nums, List.getElem?_map, Array.getElem?_toList]
  rw [Array.getElem?_eq_getElem h']
  rfl

set_option maxHeartbeats 1000000 in
set_option maxRecDepth 100000 in
theorem readText_any (g L cap p : Nat) (t : ByteArray) (Z : Nat → Int) (w : World) (hL : L ≤ 8388608) (hLc : L ≤ cap) (ht : t.size ≤ 1048576) (hp : p + (text t).length ≤ L)
    (hc : ∀ i, i < L → w.cell? ⟨g, i, none⟩ = some (.int .u8 (Z i))) (hz : ∀ j, j < (text t).length → Z (p + j) = (text t).getD j 0) :
    Calls Try.prog 12 #[.slice (some ⟨g, 0, none⟩) L cap, .int .i64 p, .string t] w fun e w' => e = .returned (.tuple #[.int .i64 (p + (text t).length : Nat), .bool true]) ∧ ∃ m, w' = w.drewN m := by
  have hu := uv_len t.size
  have hl := uv_last t.size
  rw [text_length] at hp hz ⊢
  have hR := read_any g p (L - p) (cap - p) t.size w (by omega) (by omega) (fun j hj => by rw [hc (p + j) (by omega), hz j (by omega), text_head t hj])
  have hN : 1 < (uv t.size).length → w.cell? ⟨g, p + (uv t.size).length - 1, none⟩ = some (.int .u8 ((uv t.size).getD ((uv t.size).length - 1) 0)) := fun h => by
    rw [hc _ (by omega), show p + (uv t.size).length - 1 = p + ((uv t.size).length - 1) by omega, hz _ (by omega), text_head t (by omega)]
  have hT : ∀ k (h : k < t.size), w.cell? ⟨g, p + (uv t.size).length + k, none⟩ = some (.int .u8 ((t[k]'h).toNat : Int)) := fun k h => by
    rw [hc _ (by omega), Nat.add_assoc, hz _ (by omega), text_tail t h]
  clear hc hz
  generalize (uv t.size).getD ((uv t.size).length - 1) 0 = y at hN hl
  generalize (uv t.size).length = u at *
  have hpc : p < cap := by omega
  have HR : Hid (Calls Try.prog 14 #[.slice (some ⟨g, p, none⟩) (L - p) (cap - p)] w fun e w' => e = .returned (.tuple #[.int .u64 t.size, .int .i64 u]) ∧ w' = w) := hR
  have HT : Hid (∀ k (h : k < t.size), w.cell? ⟨g, p + u + k, none⟩ = some (.int .u8 ((t[k]'h).toNat : Int))) := hT
  clear hR hT
  go_enter Try.func12, Try.ntmps12
  go_wp2_with fail
  refine HR.out.mono ?_
  rintro e w1 ⟨rfl, rfl⟩
  rcases (show u = 1 ∨ u = 2 ∨ u = 3 by omega) with rfl | rfl | rfl
  · clear hN hl
    have hd : decide ((L : Int) - (p : Int) - 1 < (t.size : Int)) = false := by simp; omega
    go_wp2
    go_loopw [11] (fun i wr => ∃ k : Nat, k ≤ t.size ∧ i = .int .i64 k ∧ ∃ m, wr = w1.drewN m) (fun i _ => t.size - (intOf i).toNat)
    case atStart => exact ⟨0, by omega, rfl, 0, rfl⟩
    case round =>
      obtain ⟨k, hk, rfl, m, rfl⟩ := hrel
      by_cases hlt : k < t.size
      · have hcell := HT.out k hlt
        have b1 : (k : Int) < (t.size : Int) := by omega
        have b2 : (p : Int) + 1 + (k : Int) < (L : Int) := by omega
        go_wp2
        go_quiet (fail)
        go_wp2
        go_roundw
        case rel => exact ⟨k + 1, by omega, by go_num, _, rfl⟩
        case measure => simp [intOf]; omega
      · obtain rfl : k = t.size := by omega
        go_wp2
        go_ret2
        refine ⟨?_, _, rfl⟩
        congr 3
        simp
        omega
  · have hn := hN (by omega)
    rw [show p + 2 - 1 = p + 1 by omega] at hn
    have hy : (y == 0) = false := beq_eq_false_iff_ne.2 (hl (by omega))
    clear hN hl
    have hd : decide ((L : Int) - (p : Int) - 2 < (t.size : Int)) = false := by simp; omega
    go_wp2
    go_loopw [11] (fun i wr => ∃ k : Nat, k ≤ t.size ∧ i = .int .i64 k ∧ ∃ m, wr = w1.drewN m) (fun i _ => t.size - (intOf i).toNat)
    case atStart => exact ⟨0, by omega, rfl, 0, rfl⟩
    case round =>
      obtain ⟨k, hk, rfl, m, rfl⟩ := hrel
      by_cases hlt : k < t.size
      · have hcell := HT.out k hlt
        have b1 : (k : Int) < (t.size : Int) := by omega
        have b2 : (p : Int) + 2 + (k : Int) < (L : Int) := by omega
        go_wp2
        go_quiet (fail)
        go_wp2
        go_roundw
        case rel => exact ⟨k + 1, by omega, by go_num, _, rfl⟩
        case measure => simp [intOf]; omega
      · obtain rfl : k = t.size := by omega
        go_wp2
        go_ret2
        refine ⟨?_, _, rfl⟩
        congr 3
        simp
        omega
  · have hn := hN (by omega)
    rw [show p + 3 - 1 = p + 2 by omega] at hn
    have hy : (y == 0) = false := beq_eq_false_iff_ne.2 (hl (by omega))
    clear hN hl
    have hd : decide ((L : Int) - (p : Int) - 3 < (t.size : Int)) = false := by simp; omega
    go_wp2
    go_loopw [11] (fun i wr => ∃ k : Nat, k ≤ t.size ∧ i = .int .i64 k ∧ ∃ m, wr = w1.drewN m) (fun i _ => t.size - (intOf i).toNat)
    case atStart => exact ⟨0, by omega, rfl, 0, rfl⟩
    case round =>
      obtain ⟨k, hk, rfl, m, rfl⟩ := hrel
      by_cases hlt : k < t.size
      · have hcell := HT.out k hlt
        have b1 : (k : Int) < (t.size : Int) := by omega
        have b2 : (p : Int) + 3 + (k : Int) < (L : Int) := by omega
        go_wp2
        go_quiet (fail)
        go_wp2
        go_roundw
        case rel => exact ⟨k + 1, by omega, by go_num, _, rfl⟩
        case measure => simp [intOf]; omega
      · obtain rfl : k = t.size := by omega
        go_wp2
        go_ret2
        refine ⟨?_, _, rfl⟩
        congr 3
        simp
        omega

end Go.Proofs.Qxb6615609a
