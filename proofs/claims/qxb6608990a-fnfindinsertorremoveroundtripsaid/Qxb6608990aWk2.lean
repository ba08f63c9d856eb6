/-
  THE WALKS (2): the loops over a row of strings that only read: zzBytes_.., pfAddLen, pfAddStrings, pfStrictlySorted, pfCountLess, pfMember.
-/
import Derived.Test.Qxb6608990aRows
import Derived.Test.Qxb6608990aPure
import Derived.WalkKit
import Derived.WalkSpells
import Derived.WalkLawsBesides
import Derived.Deep.QuietTactic
import Derived.BigQuiet
namespace Go.Proofs.Qxb6608990a
open Go.RowKit

/-- A row of n strings behind a slice's address. -/
def StrRow (w : World) (a : Option Addr) (n : Nat) (S : Nat → ByteArray) : Prop :=
  n = 0 ∨ ∃ b off : Nat, a = some ⟨b, off, none⟩ ∧ b < w.heap.size ∧ ∀ i, i < n → w.cell? ⟨b, off + i, none⟩ = some (.string (S i))

/-- The call hands back a bool of which p holds. (A name, so that the walk's simp does not part it.) -/
def RetBool (e : Ending) (p : Bool → Prop) : Prop := ∃ r : Bool, e = .returned (.bool r) ∧ p r

set_option maxHeartbeats 400000 in
theorem addLen_any (t m : Int) (w : World) (ht0 : 0 ≤ t) (ht : t ≤ 1048577) (hm : 0 ≤ m) :
    Calls Try.prog 8 #[.int .i64 t, .int .i64 m] w fun e w' => ∃ r : Int, e = .returned (.int .i64 r) ∧ 0 ≤ r ∧ r ≤ 1048577 ∧ w' = w := by
  by_cases h1 : 1048576 < t
  · go_enter Try.func8, Try.ntmps8
    go_wp2
    go_ret
    exact ⟨_, rfl, by omega, by omega, rfl⟩
  · by_cases h2 : 1048576 - t < m
    · go_enter Try.func8, Try.ntmps8
      go_wp2
      go_ret
      exact ⟨_, rfl, by omega, by omega, rfl⟩
    · go_enter Try.func8, Try.ntmps8
      go_wp2
      go_ret
      exact ⟨_, rfl, by omega, by omega, rfl⟩

set_option maxHeartbeats 400000 in
theorem addStrings_any (a : Option Addr) (n cap : Nat) (S : Nat → ByteArray) (w : World) (hn : n ≤ 1048576) (hr : StrRow w a n S) :
    Calls Try.prog 7 #[.int .i64 0, .slice a n cap] w fun e w' => ∃ r : Int, e = .returned (.int .i64 r) ∧ 0 ≤ r ∧ r ≤ 1048577 ∧ w' = w := by
  rcases hr with rfl | ⟨b, off, rfl, _, hc⟩
  · go_enter Try.func7, Try.ntmps7
    go_wp2
    refine wp_loop_rounds 1 ?_; rw [rounds_succ]; go_wp2
    go_ret
    exact ⟨_, rfl, by omega, by omega, rfl⟩
  · by_cases h1 : 65536 < n
    · go_enter Try.func7, Try.ntmps7
      go_wp2
      go_ret
      exact ⟨_, rfl, by omega, by omega, rfl⟩
    · go_enter Try.func7, Try.ntmps7
      go_wp2
      go_loop [0, 5] (fun t i => ∃ (r : Int) (k : Nat), k ≤ n ∧ 0 ≤ r ∧ r ≤ 1048576 ∧ t = .int .i64 r ∧ i = .int .i64 k) (fun _ i => n - (intOf i).toNat)
      case atStart => exact ⟨_, 0, by omega, by omega, by omega, rfl, rfl⟩
      case round =>
        obtain ⟨r, k, hk, hr0, hr1, rfl, rfl⟩ := hrel
        by_cases hlt : k < n
        · have hcell := hc k hlt
          go_wp2_with (go_at_call 8; refine (addLen_any _ _ _ (by omega) (by omega) (by omega)).mono ?_; rintro e w' ⟨r', rfl, h0, h1', rfl⟩)
          · go_ret
            exact ⟨_, rfl, by omega, by omega, rfl⟩
          · go_round
            case rel => exact ⟨_, k + 1, by omega, by omega, by omega, rfl, by go_num⟩
            case measure => simp [intOf]; omega
        · go_wp2
          go_ret
          exact ⟨_, rfl, by omega, by omega, rfl⟩

set_option maxHeartbeats 400000 in
theorem bytesCut_any (a : Option Addr) (n cap : Nat) (S : Nat → ByteArray) (t : ByteArray) (c : Int) (w : World) (hn : n ≤ maxLen) (hr : StrRow w a n S) :
    Calls Try.prog 11 #[.slice a n cap, .string t, .int .i64 c] w fun e w' => RetBool e (fun r => r = true → n ≤ 1048576) ∧ w' = w := by
  unfold maxLen at hn
  by_cases h1 : 1048576 < n
  · go_enter Try.func11, Try.ntmps11
    go_wp2
    go_ret
    exact ⟨⟨_, rfl, by simp⟩, rfl⟩
  · rcases hr with rfl | ⟨b, off, rfl, _, hc⟩
    · go_enter Try.func11, Try.ntmps11
      go_wp2
      refine wp_loop_rounds 1 ?_; rw [rounds_succ]; go_wp2
      all_goals (go_ret; exact ⟨⟨_, rfl, by omega⟩, rfl⟩)
    · go_enter Try.func11, Try.ntmps11
      go_wp2
      go_loop [7, 8] (fun t i => ∃ (r k : Nat), k ≤ n ∧ r ≤ 1048576 ∧ t = .int .i64 r ∧ i = .int .i64 k) (fun _ i => n - (intOf i).toNat)
      case atStart => exact ⟨_, 0, by omega, by omega, rfl, rfl⟩
      case round =>
        obtain ⟨r, k, hk, hr1, rfl, rfl⟩ := hrel
        by_cases hlt : k < n
        · have hcell := hc k hlt
          go_wp2
          · go_ret; exact ⟨⟨_, rfl, by omega⟩, rfl⟩
          · go_ret; exact ⟨⟨_, rfl, by omega⟩, rfl⟩
          · go_round
            case rel => exact ⟨r + (S k).size, k + 1, by omega, by omega, by go_num, by go_num⟩
            case measure => simp [intOf]; omega
        · go_wp2
          all_goals (go_ret; exact ⟨⟨_, rfl, by omega⟩, rfl⟩)

set_option maxHeartbeats 400000 in
theorem bytesRound_any (a : Option Addr) (n cap : Nat) (S : Nat → ByteArray) (t : ByteArray) (w : World) (hn : n ≤ maxLen) (hr : StrRow w a n S) :
    Calls Try.prog 16 #[.slice a n cap, .string t] w fun e w' => RetBool e (fun r => r = true → n ≤ 1048576) ∧ w' = w := by
  unfold maxLen at hn
  by_cases h1 : 1048576 < n
  · go_enter Try.func16, Try.ntmps16
    go_wp2
    go_ret
    exact ⟨⟨_, rfl, by simp⟩, rfl⟩
  · rcases hr with rfl | ⟨b, off, rfl, _, hc⟩
    · go_enter Try.func16, Try.ntmps16
      go_wp2
      refine wp_loop_rounds 1 ?_; rw [rounds_succ]; go_wp2
      all_goals (go_ret; exact ⟨⟨_, rfl, by omega⟩, rfl⟩)
    · go_enter Try.func16, Try.ntmps16
      go_wp2
      go_loop [5, 6] (fun t i => ∃ (r k : Nat), k ≤ n ∧ r ≤ 1048576 ∧ t = .int .i64 r ∧ i = .int .i64 k) (fun _ i => n - (intOf i).toNat)
      case atStart => exact ⟨_, 0, by omega, by omega, rfl, rfl⟩
      case round =>
        obtain ⟨r, k, hk, hr1, rfl, rfl⟩ := hrel
        by_cases hlt : k < n
        · have hcell := hc k hlt
          go_wp2
          · go_ret; exact ⟨⟨_, rfl, by omega⟩, rfl⟩
          · go_ret; exact ⟨⟨_, rfl, by omega⟩, rfl⟩
          · go_round
            case rel => exact ⟨r + (S k).size, k + 1, by omega, by omega, by go_num, by go_num⟩
            case measure => simp [intOf]; omega
        · go_wp2
          all_goals (go_ret; exact ⟨⟨_, rfl, by omega⟩, rfl⟩)


set_option maxHeartbeats 400000 in
theorem member_any (a : Option Addr) (n cap : Nat) (S : Nat → ByteArray) (t : ByteArray) (w : World) (hn : n ≤ 2097152) (hr : StrRow w a n S) :
    Calls Try.prog 17 #[.slice a n cap, .string t] w fun e w' => e = .returned (.bool (Pure.mem S t n)) ∧ w' = w := by
  rcases hr with rfl | ⟨b, off, rfl, _, hc⟩
  · go_enter Try.func17, Try.ntmps17
    go_wp2
    refine wp_loop_rounds 1 ?_; rw [rounds_succ]; go_wp2
    go_ret
    exact ⟨rfl, rfl⟩
  · go_enter Try.func17, Try.ntmps17
    go_wp2
    go_loop [5] (fun i => ∃ k : Nat, k ≤ n ∧ i = .int .i64 k ∧ Hid (Pure.mem S t k = false)) (fun i => n - (intOf i).toNat)
    case atStart => exact ⟨0, by omega, rfl, rfl⟩
    case round =>
      obtain ⟨k, hk, rfl, H⟩ := hrel
      by_cases hlt : k < n
      · have hcell := hc k hlt
        go_wp2
        · have hy : ((S k).toList == t.toList) = true := by assumption
          have hm : Pure.mem S t n = true := Pure.mem_iff.2 ⟨k, hlt, hy⟩
          go_ret
          exact ⟨by rw [hm]; rfl, rfl⟩
        · have hy : ((S k).toList == t.toList) = false := by assumption
          go_round
          case rel => exact ⟨k + 1, by omega, by go_num, by show (Pure.mem S t k || Pure.eq (S k) t) = false; rw [H.out]; simpa [Pure.eq] using hy⟩
          case measure => simp [intOf]; omega
      · have hk' : k = n := by omega
        subst hk'
        go_wp2
        go_ret
        exact ⟨by rw [H.out]; rfl, rfl⟩

set_option maxHeartbeats 400000 in
theorem countLess_any (a : Option Addr) (n cap : Nat) (S : Nat → ByteArray) (t : ByteArray) (w : World) (hn : n ≤ 2097152) (hr : StrRow w a n S) :
    Calls Try.prog 15 #[.slice a n cap, .string t] w fun e w' => e = .returned (.int .i64 (Pure.cnt S t n)) ∧ w' = w := by
  rcases hr with rfl | ⟨b, off, rfl, _, hc⟩
  · go_enter Try.func15, Try.ntmps15
    go_wp2
    refine wp_loop_rounds 1 ?_; rw [rounds_succ]; go_wp2
    go_ret
    exact ⟨rfl, rfl⟩
  · go_enter Try.func15, Try.ntmps15
    go_wp2
    go_loop [5, 6] (fun m i => ∃ k : Nat, k ≤ n ∧ i = .int .i64 k ∧ m = .int .i64 (Pure.cnt S t k)) (fun _ i => n - (intOf i).toNat)
    case atStart => exact ⟨0, by omega, rfl, rfl⟩
    case round =>
      obtain ⟨k, hk, rfl, rfl⟩ := hrel
      have hle := Pure.cnt_le S t k
      by_cases hlt : k < n
      · have hcell := hc k hlt
        go_wp2
        · have hy : Op.bytesLess (S k).toList t.toList = true := by assumption
          go_round
          case rel => exact ⟨k + 1, by omega, by go_num, by simp [Pure.cnt, Pure.lt, hy]⟩
          case measure => simp [intOf]; omega
        · have hy : Op.bytesLess (S k).toList t.toList = false := by assumption
          go_round
          case rel => exact ⟨k + 1, by omega, by go_num, by simp [Pure.cnt, Pure.lt, hy]⟩
          case measure => simp [intOf]; omega
      · have hk' : k = n := by omega
        subst hk'
        go_wp2
        go_ret
        exact ⟨rfl, rfl⟩

set_option maxHeartbeats 400000 in
theorem sorted_any (a : Option Addr) (n cap : Nat) (S : Nat → ByteArray) (w : World) (hn : n ≤ 2097152) (hr : StrRow w a n S) :
    Calls Try.prog 12 #[.slice a n cap] w fun e w' => e = .returned (.bool (Pure.srt S n)) ∧ ∃ m, w' = w.drewN m := by
  rcases hr with rfl | ⟨b, off, rfl, _, hc⟩
  · go_enter Try.func12, Try.ntmps12
    go_wp2
    refine wp_loop_rounds 1 ?_; rw [rounds_succ]; go_wp2
    go_ret
    exact ⟨rfl, 0, rfl⟩
  · go_enter Try.func12, Try.ntmps12
    go_wp2
    go_loopw [3] (fun i wr => ∃ k : Nat, (k + 1 ≤ n ∨ k = 0) ∧ i = .int .i64 (k + 1) ∧ Hid (Pure.srt S (k + 1) = true) ∧ ∃ m, wr = w.drewN m) (fun i _ => n - (intOf i).toNat)
    case atStart => exact ⟨0, .inr rfl, rfl, rfl, 0, rfl⟩
    case round =>
      obtain ⟨k, hk, rfl, H, m, rfl⟩ := hrel
      have hk2 : k ≤ n := by omega
      by_cases hlt : k + 1 < n
      · have hcell := hc k (by omega)
        have hcell2 := hc (k + 1) (by omega)
        by_cases hb : Op.bytesLess (S k).toList (S (k + 1)).toList = true
        · have H2 : Hid (Pure.srt S (k + 1 + 1) = true) := by
            show (Pure.srt S (k + 1) && Pure.lt (S k) (S (k + 1))) = true
            rw [H.out, Pure.lt, hb]; rfl
          go_wp2
          go_quiet (fail)
          go_wp2
          go_roundw
          case rel => exact ⟨k + 1, .inl (by omega), by go_num, H2, _, rfl⟩
          case measure => simp [intOf]; omega
        · have hb' : Op.bytesLess (S k).toList (S (k + 1)).toList = false := by simpa using hb
          clear hb
          have hf : Pure.srt S n = false := by
            rw [Bool.eq_false_iff]; intro g
            have := Pure.srt_step g k hlt
            rw [Pure.lt, hb'] at this; cases this
          go_wp2
          go_quiet (fail)
          go_wp2
          go_ret
          exact ⟨by rw [hf]; rfl, _, World.drewN_drewN _ _ _⟩
      · have hf : Pure.srt S n = true := by
          by_cases e : n = 0
          · rw [e]; rfl
          · rw [show n = k + 1 by omega]; exact H.out
        go_wp2
        go_ret
        exact ⟨by rw [hf]; rfl, _, rfl⟩

end Go.Proofs.Qxb6608990a
