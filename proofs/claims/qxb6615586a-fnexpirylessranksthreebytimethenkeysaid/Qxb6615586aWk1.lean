/-
  THE WALKS (1): time.Time: nsec, sec, addSec, Add, Compare, at instants without a monotonic reading.
-/
import Derived.Test.Qxb6615586aRows
import Derived.Test.Qxb6615586aPure
import Derived.Test.Qxb6615586aBits
import Derived.WalkKit
import Derived.WalkSpells
import Derived.WalkLawsBesides
namespace Go.Proofs.Qxb6615586a
open Go.RowKit

theorem nsec_any (b o : Nat) (x : Int) (w : World) (h0 : 0 ≤ x) (h1 : x < 1000000000) (hc : w.cell? ⟨b, o, none⟩ = some (.int .u64 x)) :
    Calls Try.prog 19 #[.pointer (some ⟨b, o, none⟩)] w fun e w' => e = .returned (.int .i32 x) ∧ w' = w := by
  have e1 := and_low x h0 h1
  go_enter Try.func19, Try.ntmps19
  go_wp2
  go_ret
  exact ⟨rfl, rfl⟩

theorem sec_any (b o : Nat) (x y : Int) (w : World) (h0 : 0 ≤ x) (h1 : x < 1000000000) (hc : w.cell? ⟨b, o, none⟩ = some (.int .u64 x)) (hd : w.cell? ⟨b, o + 1, none⟩ = some (.int .i64 y)) :
    Calls Try.prog 22 #[.pointer (some ⟨b, o, none⟩)] w fun e w' => e = .returned (.int .i64 y) ∧ w' = w := by
  have e1 := and_high x h0 h1
  go_enter Try.func22, Try.ntmps22
  go_wp2
  go_ret
  exact ⟨rfl, rfl⟩

theorem addSec_any (b o : Nat) (x d : Int) (w : World) (h0 : 0 ≤ x) (h1 : x < 1000000000) (hd0 : -9223372038 ≤ d) (hd1 : d ≤ 9223372037)
    (hc : w.cell? ⟨b, o, none⟩ = some (.int .u64 x)) (hd : w.cell? ⟨b, o + 1, none⟩ = some (.int .i64 0)) (hf : w.frozen? ⟨b, o + 1, none⟩ = false) :
    Calls Try.prog 20 #[.pointer (some ⟨b, o, none⟩), .int .i64 d] w fun e w' => e = .returned (.tuple #[]) ∧ w' = w.setCell ⟨b, o + 1, none⟩ (.int .i64 d) := by
  have e1 := and_high x h0 h1
  by_cases hp : 0 < d
  · go_enter Try.func20, Try.ntmps20
    go_wp2
    go_end0
    exact ⟨rfl, rfl⟩
  · go_enter Try.func20, Try.ntmps20
    go_wp2
    go_end0
    exact ⟨rfl, rfl⟩

theorem nanos_parts (n : Int) (h0 : -9223372036854775808 ≤ n) (h1 : n ≤ 9223372036854775807) : ∃ q r : Int, n.tdiv 1000000000 = q ∧ n.tmod 1000000000 = r ∧ -9223372037 ≤ q ∧ q ≤ 9223372037 ∧ -1000000000 < r ∧ r < 1000000000 ∧
    ((0 ≤ r ∧ n % 1000000000 = r ∧ n / 1000000000 = q) ∨ (r < 0 ∧ n % 1000000000 = r + 1000000000 ∧ n / 1000000000 = q - 1)) := by
  refine ⟨_, _, rfl, rfl, ?_⟩
  have e := Int.mul_tdiv_add_tmod n 1000000000
  by_cases hn : 0 ≤ n
  · rw [Int.tdiv_eq_ediv_of_nonneg hn, Int.tmod_eq_emod_of_nonneg hn]
    omega
  · have a1 := Int.neg_tdiv (-n) 1000000000
    have a2 := Int.neg_tmod (-n) 1000000000
    rw [Int.neg_neg] at a1 a2
    rw [a1, a2, Int.tdiv_eq_ediv_of_nonneg (by omega), Int.tmod_eq_emod_of_nonneg (by omega)]
    omega

set_option maxHeartbeats 400000 in
theorem add_any (n : Int) (w : World) (h0 : -9223372036854775808 ≤ n) (h1 : n ≤ 9223372036854775807) :
    Calls Try.prog 14 #[.agg #[.int .u64 0, .int .i64 0, .pointer none], .int .i64 n] w fun e w' => e = .returned (.agg #[.int .u64 (n % 1000000000), .int .i64 (n / 1000000000), .pointer none]) ∧ Below w.heap.size w w' := by
  obtain ⟨q, r, hq, hr, q0, q1, r0, r1, hc⟩ := nanos_parts n h0 h1
  have an := andNot_zero
  rcases hc with ⟨hneg, hm, hd⟩ | ⟨hneg, hm, hd⟩
  · have Hm : Hid (n % 1000000000 = r) := hm
    have Hd : Hid (n / 1000000000 = q) := hd
    clear hm hd
    have eo := or_zero (r) hneg (by omega)
    have eh := and_high (r) hneg (by omega)
    go_enter Try.func14, Try.ntmps14
    go_wp2_with fail
    refine (nsec_any w.heap.size 0 0 _ (by omega) (by omega) (by simp)).mono ?_
    rintro e w' ⟨rfl, rfl⟩
    go_wp2_with fail
    refine (addSec_any w.heap.size 0 (r) (q) _ hneg (by omega) (by omega) (by omega) (by simp) (by simp) (by simp)).mono ?_
    rintro e w' ⟨rfl, rfl⟩
    go_wp2
    exact bodyPost_ret (v := .agg #[.int .u64 r, .int .i64 q, .pointer none]) (by simp [results, Try.results14, go_sem]) rfl ⟨by rw [Hm.out, Hd.out], ((Below.refl _ _).alloc (Nat.le_refl _) _).alloc (by simp) _⟩
  · have Hm : Hid (n % 1000000000 = r + 1000000000) := hm
    have Hd : Hid (n / 1000000000 = q - 1) := hd
    clear hm hd
    have eo := or_zero (r + 1000000000) (by omega) (by omega)
    have eh := and_high (r + 1000000000) (by omega) (by omega)
    go_enter Try.func14, Try.ntmps14
    go_wp2_with fail
    refine (nsec_any w.heap.size 0 0 _ (by omega) (by omega) (by simp)).mono ?_
    rintro e w' ⟨rfl, rfl⟩
    go_wp2_with fail
    refine (addSec_any w.heap.size 0 (r + 1000000000) (q - 1) _ (by omega) (by omega) (by omega) (by omega) (by simp) (by simp) (by simp)).mono ?_
    rintro e w' ⟨rfl, rfl⟩
    go_wp2
    exact bodyPost_ret (v := .agg #[.int .u64 (r + 1000000000), .int .i64 (q - 1), .pointer none]) (by simp [results, Try.results14, go_sem]) rfl ⟨by rw [Hm.out, Hd.out], ((Below.refl _ _).alloc (Nat.le_refl _) _).alloc (by simp) _⟩

theorem cmp_sec_lt (x1 x2 y1 y2 : Int) (w : World) (b10 : 0 ≤ x1) (b11 : x1 < 1000000000) (b20 : 0 ≤ x2) (b21 : x2 < 1000000000) (h : y1 < y2) :
    Calls Try.prog 16 #[.agg #[.int .u64 x1, .int .i64 y1, .pointer none], .agg #[.int .u64 x2, .int .i64 y2, .pointer none]] w fun e w' => e = .returned (.int .i64 (-1)) ∧ Below w.heap.size w w' := by
  have eb := and_both x1 x2 b10 b11 b20 b21
  go_enter Try.func16, Try.ntmps16
  go_wp2_with fail
  refine (sec_any w.heap.size 0 x1 y1 _ b10 b11 (by simp) (by simp)).mono ?_
  rintro e w' ⟨rfl, rfl⟩
  go_wp2_with fail
  refine (sec_any (w.heap.size + 1) 0 x2 y2 _ b20 b21 (by simp) (by simp)).mono ?_
  rintro e w' ⟨rfl, rfl⟩
  go_wp2
  go_ret
  exact ⟨rfl, ((Below.refl _ _).alloc (Nat.le_refl _) _).alloc (by simp) _⟩

theorem cmp_sec_gt (x1 x2 y1 y2 : Int) (w : World) (b10 : 0 ≤ x1) (b11 : x1 < 1000000000) (b20 : 0 ≤ x2) (b21 : x2 < 1000000000) (h : y2 < y1) :
    Calls Try.prog 16 #[.agg #[.int .u64 x1, .int .i64 y1, .pointer none], .agg #[.int .u64 x2, .int .i64 y2, .pointer none]] w fun e w' => e = .returned (.int .i64 (1)) ∧ Below w.heap.size w w' := by
  have eb := and_both x1 x2 b10 b11 b20 b21
  go_enter Try.func16, Try.ntmps16
  go_wp2_with fail
  refine (sec_any w.heap.size 0 x1 y1 _ b10 b11 (by simp) (by simp)).mono ?_
  rintro e w' ⟨rfl, rfl⟩
  go_wp2_with fail
  refine (sec_any (w.heap.size + 1) 0 x2 y2 _ b20 b21 (by simp) (by simp)).mono ?_
  rintro e w' ⟨rfl, rfl⟩
  go_wp2
  go_ret
  exact ⟨rfl, ((Below.refl _ _).alloc (Nat.le_refl _) _).alloc (by simp) _⟩

theorem cmp_ns_lt (x1 x2 y1 : Int) (w : World) (b10 : 0 ≤ x1) (b11 : x1 < 1000000000) (b20 : 0 ≤ x2) (b21 : x2 < 1000000000) (h : x1 < x2) :
    Calls Try.prog 16 #[.agg #[.int .u64 x1, .int .i64 y1, .pointer none], .agg #[.int .u64 x2, .int .i64 y1, .pointer none]] w fun e w' => e = .returned (.int .i64 (-1)) ∧ Below w.heap.size w w' := by
  have eb := and_both x1 x2 b10 b11 b20 b21
  go_enter Try.func16, Try.ntmps16
  go_wp2_with fail
  refine (sec_any w.heap.size 0 x1 y1 _ b10 b11 (by simp) (by simp)).mono ?_
  rintro e w' ⟨rfl, rfl⟩
  go_wp2_with fail
  refine (sec_any (w.heap.size + 1) 0 x2 y1 _ b20 b21 (by simp) (by simp)).mono ?_
  rintro e w' ⟨rfl, rfl⟩
  go_wp2_with fail
  refine (nsec_any w.heap.size 0 x1 _ b10 b11 (by simp)).mono ?_
  rintro e w' ⟨rfl, rfl⟩
  go_wp2_with fail
  refine (nsec_any (w.heap.size + 1) 0 x2 _ b20 b21 (by simp)).mono ?_
  rintro e w' ⟨rfl, rfl⟩
  go_wp2
  go_ret
  exact ⟨rfl, ((Below.refl _ _).alloc (Nat.le_refl _) _).alloc (by simp) _⟩

theorem cmp_ns_gt (x1 x2 y1 : Int) (w : World) (b10 : 0 ≤ x1) (b11 : x1 < 1000000000) (b20 : 0 ≤ x2) (b21 : x2 < 1000000000) (h : x2 < x1) :
    Calls Try.prog 16 #[.agg #[.int .u64 x1, .int .i64 y1, .pointer none], .agg #[.int .u64 x2, .int .i64 y1, .pointer none]] w fun e w' => e = .returned (.int .i64 (1)) ∧ Below w.heap.size w w' := by
  have eb := and_both x1 x2 b10 b11 b20 b21
  go_enter Try.func16, Try.ntmps16
  go_wp2_with fail
  refine (sec_any w.heap.size 0 x1 y1 _ b10 b11 (by simp) (by simp)).mono ?_
  rintro e w' ⟨rfl, rfl⟩
  go_wp2_with fail
  refine (sec_any (w.heap.size + 1) 0 x2 y1 _ b20 b21 (by simp) (by simp)).mono ?_
  rintro e w' ⟨rfl, rfl⟩
  go_wp2_with fail
  refine (nsec_any w.heap.size 0 x1 _ b10 b11 (by simp)).mono ?_
  rintro e w' ⟨rfl, rfl⟩
  go_wp2_with fail
  refine (nsec_any (w.heap.size + 1) 0 x2 _ b20 b21 (by simp)).mono ?_
  rintro e w' ⟨rfl, rfl⟩
  go_wp2
  go_ret
  exact ⟨rfl, ((Below.refl _ _).alloc (Nat.le_refl _) _).alloc (by simp) _⟩

theorem cmp_eq (x1 y1 : Int) (w : World) (b10 : 0 ≤ x1) (b11 : x1 < 1000000000) (b20 : 0 ≤ x1) (b21 : x1 < 1000000000) :
    Calls Try.prog 16 #[.agg #[.int .u64 x1, .int .i64 y1, .pointer none], .agg #[.int .u64 x1, .int .i64 y1, .pointer none]] w fun e w' => e = .returned (.int .i64 (0)) ∧ Below w.heap.size w w' := by
  have eb := and_both x1 x1 b10 b11 b20 b21
  go_enter Try.func16, Try.ntmps16
  go_wp2_with fail
  refine (sec_any w.heap.size 0 x1 y1 _ b10 b11 (by simp) (by simp)).mono ?_
  rintro e w' ⟨rfl, rfl⟩
  go_wp2_with fail
  refine (sec_any (w.heap.size + 1) 0 x1 y1 _ b20 b21 (by simp) (by simp)).mono ?_
  rintro e w' ⟨rfl, rfl⟩
  go_wp2_with fail
  refine (nsec_any w.heap.size 0 x1 _ b10 b11 (by simp)).mono ?_
  rintro e w' ⟨rfl, rfl⟩
  go_wp2_with fail
  refine (nsec_any (w.heap.size + 1) 0 x1 _ b20 b21 (by simp)).mono ?_
  rintro e w' ⟨rfl, rfl⟩
  go_wp2
  go_ret
  exact ⟨rfl, ((Below.refl _ _).alloc (Nat.le_refl _) _).alloc (by simp) _⟩

theorem compareT_any (n1 n2 : Int) (w : World) :
    Calls Try.prog 16 #[.agg #[.int .u64 (n1 % 1000000000), .int .i64 (n1 / 1000000000), .pointer none], .agg #[.int .u64 (n2 % 1000000000), .int .i64 (n2 / 1000000000), .pointer none]] w fun e w' =>
      e = .returned (.int .i64 (Pure.cmpT n1 n2)) ∧ Below w.heap.size w w' := by
  by_cases c1 : n1 / 1000000000 < n2 / 1000000000
  · rw [show Pure.cmpT n1 n2 = -1 by unfold Pure.cmpT; rw [if_pos (by omega)]]
    exact cmp_sec_lt _ _ _ _ w (by omega) (by omega) (by omega) (by omega) c1
  · by_cases c2 : n2 / 1000000000 < n1 / 1000000000
    · rw [show Pure.cmpT n1 n2 = 1 by unfold Pure.cmpT; rw [if_neg (by omega), if_pos (by omega)]]
      exact cmp_sec_gt _ _ _ _ w (by omega) (by omega) (by omega) (by omega) c2
    · have e : n2 / 1000000000 = n1 / 1000000000 := by omega
      by_cases c3 : n1 % 1000000000 < n2 % 1000000000
      · rw [show Pure.cmpT n1 n2 = -1 by unfold Pure.cmpT; rw [if_pos (by omega)], e]
        exact cmp_ns_lt _ _ _ w (by omega) (by omega) (by omega) (by omega) c3
      · by_cases c4 : n2 % 1000000000 < n1 % 1000000000
        · rw [show Pure.cmpT n1 n2 = 1 by unfold Pure.cmpT; rw [if_neg (by omega), if_pos (by omega)], e]
          exact cmp_ns_gt _ _ _ w (by omega) (by omega) (by omega) (by omega) c4
        · rw [show Pure.cmpT n1 n2 = 0 by unfold Pure.cmpT; rw [if_neg (by omega), if_neg (by omega)], e, show n2 % 1000000000 = n1 % 1000000000 by omega]
          exact cmp_eq _ _ w (by omega) (by omega) (by omega) (by omega)

end Go.Proofs.Qxb6615586a
