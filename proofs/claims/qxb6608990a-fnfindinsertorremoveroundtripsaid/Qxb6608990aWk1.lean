/-
  THE WALKS (1): strings.Compare, Find's closure, slices.BinarySearchFunc, Find.
-/
import Derived.Test.Qxb6608990aRows
import Derived.Test.Qxb6608990aPure
import Derived.WalkKit
import Derived.WalkSpells
import Derived.WalkLawsBesides
namespace Go.Proofs.Qxb6608990a
open Go.RowKit

theorem compareString_any (a b : ByteArray) (w : World) :
    Calls Try.prog 26 #[.string a, .string b] w fun e w' => e = .returned (.int .i64 (Lib.compareBytes a.data.toList b.data.toList)) ∧ w' = w := by
  go_enter Try.func26, Try.ntmps26
  go_wp2
  rw [run_callFunc_extern Try.func27 (by kernel_rfl) (by kernel_rfl) (by kernel_rfl) (e := Extern.BytealgCompare.compare) (by kernel_rfl), Lib.run_compareString]
  simp only [Result.andThen]
  rw [Oper.upon_value]
  go_wp2
  go_ret
  exact ⟨rfl, rfl⟩

theorem compare_any (a b : ByteArray) (w : World) :
    Calls Try.prog 23 #[.string a, .string b] w fun e w' => e = .returned (.int .i64 (Lib.compareBytes a.data.toList b.data.toList)) ∧ w' = w := by
  go_enter Try.func23, Try.ntmps23
  go_wp2_with (go_at_call 26; refine (compareString_any _ _ _).mono ?_; rintro e w' ⟨rfl, rfl⟩)
  go_ret
  exact ⟨rfl, rfl⟩

/-- Find's closure, at a pointer to a profile whose fund is s. -/
theorem closure_any (pb : Nat) (s t : ByteArray) (w : World) (hc : w.cell? ⟨pb, 0, none⟩ = some (.string s)) :
    Calls Try.prog 22 #[.pointer (some ⟨pb, 0, none⟩), .string t] w fun e w' => e = .returned (.int .i64 (Lib.compareBytes s.data.toList t.data.toList)) ∧ w' = w := by
  go_enter Try.func22, Try.ntmps22
  go_wp2_with (go_at_call 23; refine (compare_any _ _ _).mono ?_; rintro e w' ⟨rfl, rfl⟩)
  go_ret
  exact ⟨rfl, rfl⟩

theorem cmp_yes {s t : ByteArray} (h : Lib.compareBytes s.data.toList t.data.toList < 0) : Pure.lt s t = true := by
  have := Pure.cmp_lt s.data.toList t.data.toList
  rw [Pure.lt, Lib.toList_data, Lib.toList_data, ← this]; simpa using h
theorem cmp_no {s t : ByteArray} (h : 0 ≤ Lib.compareBytes s.data.toList t.data.toList) : Pure.lt s t = false := by
  have := Pure.cmp_lt s.data.toList t.data.toList
  rw [Pure.lt, Lib.toList_data, Lib.toList_data, ← this]; simpa using h
theorem cmp_same (s t : ByteArray) : (Lib.compareBytes s.data.toList t.data.toList == 0) = Pure.eq s t := by
  have := Pure.cmp_zero s.data.toList t.data.toList
  rw [Pure.eq, Lib.toList_data, Lib.toList_data, ← this]
theorem ret_found {S : Nat → ByteArray} {t : ByteArray} {n l : Nat} (hsrt : Pure.Srt S n) (hl : l ≤ n) (H : (∀ m, m < l → Pure.lt (S m) t = true) ∧ ∀ m, l ≤ m → m < n → Pure.lt (S m) t = false) :
    Pure.cnt S t n = l ∧ Pure.mem S t n = (decide (l < n) && Pure.eq (S l) t) := ⟨Pure.cnt_of hl H.1 H.2, Pure.mem_of hsrt hl H.1 H.2⟩

set_option maxHeartbeats 400000 in
theorem search_any (b off n cap : Nat) (S : Nat → ByteArray) (Pb : Nat → Nat) (t : ByteArray) (w : World) (hn : n ≤ 2097152)
    (hp : ∀ i, i < n → w.cell? ⟨b, off + i, none⟩ = some (.pointer (some ⟨Pb i, 0, none⟩))) (hs : ∀ i, i < n → w.cell? ⟨Pb i, 0, none⟩ = some (.string (S i))) (hsrt : Pure.Srt S n) :
    Calls Try.prog 21 #[.slice (some ⟨b, off, none⟩) n cap, .string t, .func (.func 22) #[] #[]] w fun e w' => e = .returned (.tuple #[.int .i64 (Pure.cnt S t n), .bool (Pure.mem S t n)]) ∧ w' = w := by
  go_enter Try.func21, Try.ntmps21
  go_wp2
  go_loop [9, 10] (fun i j => ∃ l h : Nat, l ≤ h ∧ h ≤ n ∧ i = .int .i64 l ∧ j = .int .i64 h ∧ Hid ((∀ m, m < l → Pure.lt (S m) t = true) ∧ ∀ m, h ≤ m → m < n → Pure.lt (S m) t = false))
    (fun i j => (intOf j).toNat - (intOf i).toNat)
  case atStart => exact ⟨0, n, by omega, by omega, rfl, rfl, ⟨fun m h => by omega, fun m a b => by omega⟩⟩
  case round =>
    obtain ⟨l, h, hlh, hhn, rfl, rfl, H⟩ := hrel
    by_cases hlt : l < h
    · have c1 := hp ((l + h) / 2) (by omega)
      have c2 := hs ((l + h) / 2) (by omega)
      go_wp2_with (go_at_call 22; refine (closure_any _ (S ((l + h) / 2)) t _ c2).mono ?_; rintro e w' ⟨rfl, rfl⟩)
      · have hc : Lib.compareBytes (S ((l + h) / 2)).data.toList t.data.toList < 0 := by assumption
        have hy := cmp_yes hc
        go_round
        case rel =>
          refine ⟨(l + h) / 2 + 1, h, by omega, by omega, by go_num, rfl, ⟨fun m hm => ?_, H.out.2⟩⟩
          by_cases e : m = (l + h) / 2
          · rw [e]; exact hy
          · exact Pure.lt_trans (hsrt m ((l + h) / 2) (by omega) (by omega)) hy
        case measure => simp [intOf]; omega
      · have hc : 0 ≤ Lib.compareBytes (S ((l + h) / 2)).data.toList t.data.toList := by assumption
        have hy := cmp_no hc
        go_round
        case rel =>
          refine ⟨l, (l + h) / 2, by omega, by omega, rfl, by go_num, ⟨H.out.1, fun m hm hmn => ?_⟩⟩
          by_cases e : m = (l + h) / 2
          · rw [e]; exact hy
          · rw [Bool.eq_false_iff]; intro g
            rw [Pure.lt_trans (hsrt ((l + h) / 2) m (by omega) (by omega)) g] at hy; cases hy
        case measure => simp [intOf]; omega
    · have hh : h = l := by omega
      subst hh
      have HF : Hid (Pure.cnt S t n = h ∧ Pure.mem S t n = (decide (h < n) && Pure.eq (S h) t)) := ⟨(ret_found hsrt hhn H.out).1, (ret_found hsrt hhn H.out).2⟩
      by_cases hln : h < n
      · have c1 := hp h hln
        have c2 := hs h hln
        go_wp2_with (go_at_call 22; refine (closure_any _ (S h) t _ c2).mono ?_; rintro e w' ⟨rfl, rfl⟩)
        go_ret2
        refine ⟨?_, rfl⟩
        rw [cmp_same, HF.out.1, HF.out.2]
        simp [hln]
      · go_wp2
        go_ret2
        refine ⟨?_, rfl⟩
        rw [HF.out.1, HF.out.2]
        simp [hln]

set_option maxHeartbeats 400000 in
theorem search_none (a : Option Addr) (cap : Nat) (t : ByteArray) (w : World) :
    Calls Try.prog 21 #[.slice a 0 cap, .string t, .func (.func 22) #[] #[]] w fun e w' => e = .returned (.tuple #[.int .i64 0, .bool false]) ∧ w' = w := by
  go_enter Try.func21, Try.ntmps21
  go_wp2
  refine wp_loop_rounds 1 ?_; rw [rounds_succ]; go_wp2
  go_ret2
  exact ⟨rfl, rfl⟩

/-- A row of profiles: each cell leads to a profile whose first cell is the fund's name. -/
def ProfRow (w : World) (a : Option Addr) (n : Nat) (S : Nat → ByteArray) : Prop :=
  n = 0 ∨ ∃ (b off : Nat) (Pb : Nat → Nat), a = some ⟨b, off, none⟩ ∧ (∀ i, i < n → w.cell? ⟨b, off + i, none⟩ = some (.pointer (some ⟨Pb i, 0, none⟩))) ∧ ∀ i, i < n → w.cell? ⟨Pb i, 0, none⟩ = some (.string (S i))

set_option maxHeartbeats 400000 in
theorem find_any (a : Option Addr) (n cap : Nat) (S : Nat → ByteArray) (t : ByteArray) (w : World) (hn : n ≤ 2097152) (hp : ProfRow w a n S) (hsrt : Pure.Srt S n) :
    Calls Try.prog 14 #[.slice a n cap, .string t] w fun e w' => e = .returned (.tuple #[.int .i64 (Pure.cnt S t n), .bool (Pure.mem S t n)]) ∧ w' = w := by
  rcases hp with rfl | ⟨b, off, Pb, rfl, hp, hs⟩
  · go_enter Try.func14, Try.ntmps14
    go_wp2_with (go_at_call 21; refine (search_none _ _ _ _).mono ?_; rintro e w' ⟨rfl, rfl⟩)
    go_ret2
    exact ⟨rfl, rfl⟩
  · have HS := search_any b off n cap S Pb t w hn hp hs hsrt
    have H : Hid (Calls Try.prog 21 #[.slice (some ⟨b, off, none⟩) n cap, .string t, .func (.func 22) #[] #[]] w fun e w' => e = .returned (.tuple #[.int .i64 (Pure.cnt S t n), .bool (Pure.mem S t n)]) ∧ w' = w) := HS
    clear hp hs HS
    go_enter Try.func14, Try.ntmps14
    go_wp2_with (go_at_call 21; refine H.out.mono ?_; rintro e w' ⟨rfl, rfl⟩)
    go_ret2
    exact ⟨rfl, rfl⟩

end Go.Proofs.Qxb6608990a
