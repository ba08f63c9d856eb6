/-
  THE WALKS (2): strings.Compare, cmp.Or, ZZnewExpiry, expBefore, zzBytes_.., Less.
-/
import Derived.Test.Qxb6615586aWk1
import Derived.Deep.RegionHeld3
namespace Go.Proofs.Qxb6615586a
open Go.RowKit

theorem compareString_any (a b : ByteArray) (w : World) :
    Calls Try.prog 23 #[.string a, .string b] w fun e w' => e = .returned (.int .i64 (Lib.compareBytes a.data.toList b.data.toList)) ∧ w' = w := by
  go_enter Try.func23, Try.ntmps23
  go_wp2
  rw [run_callFunc_extern Try.func24 (by kernel_rfl) (by kernel_rfl) (by kernel_rfl) (e := Extern.BytealgCompare.compare) (by kernel_rfl), Lib.run_compareString]
  simp only [Result.andThen]
  rw [Oper.upon_value]
  go_wp2
  go_ret
  exact ⟨rfl, rfl⟩

theorem compare_any (a b : ByteArray) (w : World) :
    Calls Try.prog 17 #[.string a, .string b] w fun e w' => e = .returned (.int .i64 (Lib.compareBytes a.data.toList b.data.toList)) ∧ w' = w := by
  go_enter Try.func17, Try.ntmps17
  go_wp2_with (go_at_call 23; refine (compareString_any _ _ _).mono ?_; rintro e w' ⟨rfl, rfl⟩)
  go_ret
  exact ⟨rfl, rfl⟩

/-- cmp.Or of two: the first that is not 0. -/
theorem or_any (b : Nat) (x y : Int) (w : World) (hx : w.cell? ⟨b, 0, none⟩ = some (.int .i64 x)) (hy : w.cell? ⟨b, 1, none⟩ = some (.int .i64 y)) :
    Calls Try.prog 15 #[.slice (some ⟨b, 0, none⟩) 2 2] w fun e w' => e = .returned (.int .i64 (Pure.orI x y)) ∧ w' = w := by
  unfold Pure.orI
  by_cases h : x = 0
  · subst h
    by_cases g : y = 0
    · subst g
      go_enter Try.func15, Try.ntmps15
      go_wp2
      refine wp_loop_rounds 3 ?_
      rw [rounds_succ]; go_wp2
      rw [rounds_succ]; go_wp2
      rw [rounds_succ]; go_wp2
      go_ret
      exact ⟨rfl, rfl⟩
    · have g' : (y != 0) = true := by simpa using g
      rw [if_pos rfl]
      go_enter Try.func15, Try.ntmps15
      go_wp2
      refine wp_loop_rounds 2 ?_
      rw [rounds_succ]; go_wp2
      rw [rounds_succ]; go_wp2
      go_ret
      exact ⟨rfl, rfl⟩
  · have h' : (x != 0) = true := by simpa using h
    rw [if_neg h]
    go_enter Try.func15, Try.ntmps15
    go_wp2
    refine wp_loop_rounds 1 ?_
    rw [rounds_succ]; go_wp2
    go_ret
    exact ⟨rfl, rfl⟩

/-- An expiry in block q: its key and its instant. -/
def Exp (w : World) (q : Nat) (k : ByteArray) (n : Int) : Prop :=
  w.cell? ⟨q, 0, none⟩ = some (.string k) ∧ w.cell? ⟨q, 1, none⟩ = some (.int .u64 (n % 1000000000)) ∧ w.cell? ⟨q, 2, none⟩ = some (.int .i64 (n / 1000000000)) ∧ w.cell? ⟨q, 3, none⟩ = some (.pointer none)

theorem new_any (k : ByteArray) (n : Int) (w : World) (h0 : -9223372036854775808 ≤ n) (h1 : n ≤ 9223372036854775807) :
    Calls Try.prog 10 #[.string k, .int .i64 n] w fun e w' => ∃ q, e = .returned (.pointer (some ⟨q, 0, none⟩)) ∧ Exp w' q k n ∧ Below w.heap.size w w' := by
  go_enter Try.func10, Try.ntmps10
  go_wp2_with fail
  refine (add_any n w h0 h1).mono ?_
  rintro e w1 ⟨rfl, hb⟩
  go_wp2
  go_ret
  exact ⟨w1.heap.size, rfl, ⟨by simp, by simp, by simp, by simp⟩, hb.alloc hb.size _⟩

theorem before_any (n1 n2 : Int) (k1 k2 : ByteArray) (w : World) :
    Calls Try.prog 12 #[.int .i64 n1, .string k1, .int .i64 n2, .string k2] w fun e w' => e = .returned (.bool (Pure.before n1 k1 n2 k2)) ∧ w' = w := by
  unfold Pure.before
  by_cases h : n1 = n2
  · subst h
    rw [if_pos rfl]
    go_enter Try.func12, Try.ntmps12
    go_wp2
    go_ret
    exact ⟨rfl, rfl⟩
  · rw [if_neg h]
    have h' : (n1 != n2) = true := by simpa using h
    go_enter Try.func12, Try.ntmps12
    go_wp2
    go_ret
    exact ⟨rfl, rfl⟩

/-- The call hands back a bool. -/
def RetBool (e : Ending) : Prop := ∃ r : Bool, e = .returned (.bool r)

set_option maxHeartbeats 400000 in
theorem bytes_any (a b c : ByteArray) (x y z : Int) (w : World) (ha : a.size ≤ maxLen) (hb : b.size ≤ maxLen) (hc : c.size ≤ maxLen) :
    Calls Try.prog 9 #[.string a, .int .i64 x, .string b, .int .i64 y, .string c, .int .i64 z] w fun e w' => RetBool e ∧ w' = w := by
  unfold maxLen at ha hb hc
  go_enter Try.func9, Try.ntmps9
  go_wp2
  all_goals (go_ret; exact ⟨⟨_, rfl⟩, rfl⟩)

end Go.Proofs.Qxb6615586a
