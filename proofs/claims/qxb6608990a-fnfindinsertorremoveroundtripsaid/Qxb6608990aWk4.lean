/-
  THE WALKS (4): the law FnFindAgreesOverAnyCut.
-/
import Derived.Test.Qxb6608990aWk3
namespace Go.Proofs.Qxb6608990a
open Go.RowKit

theorem StrRow.later {w w1 : World} {a : Option Addr} {n : Nat} {S : Nat → ByteArray} (h : StrRow w a n S) (hb : Below w.heap.size w w1) : StrRow w1 a n S := by
  rcases h with h | ⟨b, off, rfl, hlt, hc⟩
  · exact .inl h
  · exact .inr ⟨b, off, rfl, Nat.lt_of_lt_of_le hlt hb.size, fun i hi => (hb.cell (p := ⟨b, off + i, none⟩) hlt).trans (hc i hi)⟩
theorem StrRow.drewN {w : World} {a : Option Addr} {n : Nat} {S : Nat → ByteArray} (h : StrRow w a n S) (m : Nat) : StrRow (w.drewN m) a n S := h
theorem ProfRow.take {w : World} {a : Option Addr} {n c : Nat} {S : Nat → ByteArray} (h : ProfRow w a n S) (hc : c ≤ n) : ProfRow w a c S := by
  rcases h with h | ⟨b, off, Pb, rfl, h1, h2⟩
  · exact .inl (by omega)
  · exact .inr ⟨b, off, Pb, rfl, fun i hi => h1 i (by omega), fun i hi => h2 i (by omega)⟩
theorem ProfRow.drop {w : World} {b off n c : Nat} {S : Nat → ByteArray} (h : ProfRow w (some ⟨b, off, none⟩) n S) (hc : c ≤ n) : ProfRow w (some ⟨b, off + c, none⟩) (n - c) (fun j => S (c + j)) := by
  rcases h with h | ⟨b', off', Pb, e, h1, h2⟩
  · exact .inl (by omega)
  · cases e
    exact .inr ⟨_, _, fun j => Pb (c + j), rfl, fun i hi => by rw [Nat.add_assoc]; exact h1 (c + i) (by omega), fun i hi => h2 (c + i) (by omega)⟩

set_option maxHeartbeats 1000000 in
theorem lawCut (a : Option Addr) (n cap : Nat) (S : Nat → ByteArray) (t : ByteArray) (c : Int) (w : World) (hn : n ≤ maxLen) (ht : t.size ≤ maxLen) (hr : StrRow w a n S) :
    Calls Try.prog 4 #[.slice a n cap, .string t, .int .i64 c] w fun e w' => e = .returned (.bool true) ∧ Below w.heap.size w w' := by
  unfold maxLen at ht
  go_enter Try.func4, Try.ntmps4
  go_wp2_with fail
  refine (bytesCut_any a n cap S t c w hn hr).mono ?_
  rintro e w1 ⟨⟨r, rfl, hr1⟩, rfl⟩
  cases r
  · go_wp2
    go_ret
    exact ⟨rfl, Below.refl _ _⟩
  have hn1 := hr1 rfl
  clear hr1
  go_wp2_with fail
  refine (addStrings_any a n cap S _ hn1 hr).mono ?_
  rintro e w2 ⟨r, rfl, hr0, hr1, rfl⟩
  go_wp2_with fail
  refine (addLen_any r t.size _ hr0 hr1 (by omega)).mono ?_
  rintro e w3 ⟨r', rfl, hr0', hr1', rfl⟩
  by_cases htot : 1048576 < r'
  · go_wp2
    go_ret
    exact ⟨rfl, Below.refl _ _⟩
  go_wp2_with fail
  refine (sorted_any a n cap S _ (by omega) hr).mono ?_
  rintro e w4 ⟨rfl, m, rfl⟩
  by_cases hs : Pure.srt S n = true
  · rw [hs]
    have hsrt := Pure.srt_Srt hs
    clear hs
    by_cases hc0 : c < 0
    · go_wp2
      go_ret
      exact ⟨rfl, below_drewN (Below.refl _ _) _⟩
    by_cases hc1 : (n : Int) < c
    · go_wp2
      go_ret
      exact ⟨rfl, below_drewN (Below.refl _ _) _⟩
    obtain ⟨k, rfl⟩ := Int.eq_ofNat_of_zero_le (show 0 ≤ c by omega)
    have hkn : k ≤ n := by omega
    clear hc0 hc1
    go_wp2_with fail
    refine (profiles_any a n cap S _ (by omega) (hr.drewN m)).mono ?_
    rintro e w5 ⟨rfl, hprof, hbel0⟩
    have hbel : Below w3.heap.size w3 w5 := (below_drewN (Below.refl _ _) m).trans hbel0
    clear hbel0
    have hrow := hr.later hbel
    go_wp2_with fail
    refine (find_any _ n n S t w5 (by omega) hprof hsrt).mono ?_
    rintro e w6 ⟨rfl, rfl⟩
    go_wp2_with fail
    refine (find_any _ k n S t w6 (by omega) (hprof.take hkn) (Pure.Srt_take hsrt hkn)).mono ?_
    rintro e w7 ⟨rfl, rfl⟩
    have hle := Pure.cnt_le S t n
    have hle2 := Pure.cnt_le S t k
    have hle3 := Pure.cnt_le (fun j => S (k + j)) t (n - k)
    have HM : Hid (Pure.mem S t n = (Pure.mem S t k || Pure.mem (fun j => S (k + j)) t (n - k))) := Pure.mem_cut S t hkn
    have HC : Hid ((Pure.cnt S t k < k → Pure.cnt S t n = Pure.cnt S t k) ∧ (¬ Pure.cnt S t k < k → Pure.cnt S t n = k + Pure.cnt (fun j => S (k + j)) t (n - k))) := Pure.cnt_cut t hsrt hkn
    have HW : Hid (Pure.mem S t n = (decide (Pure.cnt S t n < n) && Pure.eq (S (Pure.cnt S t n)) t)) := Pure.want_ok t hsrt
    by_cases hke : k = n
    · subst hke
      go_wp2_with fail
      refine (find_any _ 0 0 S t w7 (by omega) (.inl rfl) (fun i j _ h => by omega)).mono ?_
      rintro e w8 ⟨rfl, rfl⟩
      go_wp2_with fail
      refine (countLess_any a k cap S t w8 (by omega) hrow).mono ?_
      rintro e w9 ⟨rfl, rfl⟩
      rw [show Pure.cnt S t 0 = 0 from rfl, show Pure.mem S t 0 = false from rfl]
      clear HM HC hle3 hle2 hprof hsrt
      generalize Pure.mem S t k = M at *
      generalize Pure.cnt S t k = L at *
      by_cases hj : L < k
      · rcases hrow with h0 | ⟨b, off, rfl, _, hcell⟩
        · omega
        have hcl := hcell L hj
        clear hcell
        cases hq : ((S L).toList == t.toList)
        · obtain rfl : M = false := by rw [HW.out, Pure.eq, hq]; simp
          go_wp2
          go_ret
          exact ⟨rfl, hbel⟩
        · obtain rfl : M = true := by rw [HW.out, Pure.eq, hq]; simp [hj]
          go_wp2
          go_ret
          exact ⟨rfl, hbel⟩
      · obtain rfl : L = k := by omega
        obtain rfl : M = false := by rw [HW.out]; simp
        clear hrow
        go_wp2
        go_ret
        exact ⟨rfl, hbel⟩
    · have hklt : k < n := by omega
      have hpd := hprof.drop hkn
      rw [Nat.zero_add] at hpd
      go_wp2_with fail
      refine (find_any _ (n - k) (n - k) (fun j => S (k + j)) t w7 (by omega) hpd (Pure.Srt_drop hsrt hkn)).mono ?_
      rintro e w8 ⟨rfl, rfl⟩
      go_wp2_with fail
      refine (countLess_any a n cap S t w8 (by omega) hrow).mono ?_
      rintro e w9 ⟨rfl, rfl⟩
      generalize Pure.mem S t n = M at *
      generalize Pure.mem S t k = Mk at *
      generalize Pure.mem (fun j => S (k + j)) t (n - k) = Mr at *
      generalize Pure.cnt S t n = L at *
      generalize Pure.cnt S t k = Lk at *
      generalize Pure.cnt (fun j => S (k + j)) t (n - k) = Lr at *
      clear hprof hpd hsrt
      by_cases hj : Lk < k
      · obtain rfl : L = Lk := HC.out.1 hj
        have hLn : L < n := by omega
        rcases hrow with h0 | ⟨b, off, rfl, _, hcell⟩
        · omega
        have hcl := hcell L hLn
        clear hcell
        cases hq : ((S L).toList == t.toList)
        · obtain rfl : M = false := by rw [HW.out, Pure.eq, hq]; simp
          obtain ⟨rfl, rfl⟩ : Mk = false ∧ Mr = false := by simpa using HM.out.symm
          go_wp2
          go_ret
          exact ⟨rfl, hbel⟩
        · obtain rfl : M = true := by rw [HW.out, Pure.eq, hq]; simp [hLn]
          have hm : (Mk || Mr) = true := HM.out.symm
          cases Mk
          · obtain rfl : Mr = true := by simpa using hm
            go_wp2
            go_ret
            exact ⟨rfl, hbel⟩
          · clear hm
            go_wp2
            go_ret
            exact ⟨rfl, hbel⟩
      · obtain rfl : L = k + Lr := HC.out.2 hj
        by_cases hLn : k + Lr < n
        · rcases hrow with h0 | ⟨b, off, rfl, _, hcell⟩
          · omega
          have hcl := hcell (k + Lr) hLn
          clear hcell
          cases hq : ((S (k + Lr)).toList == t.toList)
          · obtain rfl : M = false := by rw [HW.out, Pure.eq, hq]; simp
            obtain ⟨rfl, rfl⟩ : Mk = false ∧ Mr = false := by simpa using HM.out.symm
            go_wp2
            go_ret
            exact ⟨rfl, hbel⟩
          · obtain rfl : M = true := by rw [HW.out, Pure.eq, hq]; simp [hLn]
            have hm : (Mk || Mr) = true := HM.out.symm
            cases Mk
            · obtain rfl : Mr = true := by simpa using hm
              go_wp2
              go_ret
              exact ⟨rfl, hbel⟩
            · clear hm
              go_wp2
              go_ret
              exact ⟨rfl, hbel⟩
        · obtain rfl : M = false := by rw [HW.out]; simp [hLn]
          obtain ⟨rfl, rfl⟩ : Mk = false ∧ Mr = false := by simpa using HM.out.symm
          clear hrow
          go_wp2
          go_ret
          exact ⟨rfl, hbel⟩
  · rw [show Pure.srt S n = false by simpa using hs]
    go_wp2
    go_ret
    exact ⟨rfl, below_drewN (Below.refl _ _) _⟩

end Go.Proofs.Qxb6608990a
