/-
  THE WALKS (4): the law FnExpiryLessRanksThreeByTimeThenKey.
-/
import Derived.Test.Qxb6615586aWk3
import Derived.Deep.QuietTactic
import Derived.BigQuiet
namespace Go.Proofs.Qxb6615586a
open Go.RowKit

/-- WHAT THE LAW HAS MADE: the keys' array, the instants' array, the queue and its three expiries. -/
structure Held (w : World) (bk bn bq : Nat) (Q : Nat → Nat) (K : Nat → ByteArray) (N : Nat → Int) : Prop where
  key : ∀ j, j < 3 → w.cell? ⟨bk, j, none⟩ = some (.string (K j))
  num : ∀ j, j < 3 → w.cell? ⟨bn, j, none⟩ = some (.int .i64 (N j))
  ptr : ∀ j, j < 3 → w.cell? ⟨bq, j, none⟩ = some (.pointer (some ⟨Q j, 0, none⟩))
  exp : ∀ j, j < 3 → Exp w (Q j) (K j) (N j)

theorem Exp.later {w w' : World} {q : Nat} {k : ByteArray} {n : Int} (h : Exp w q k n) (hb : Below w.heap.size w w') : Exp w' q k n := by
  obtain ⟨a, b, c, d⟩ := h
  exact ⟨cell_later hb a, cell_later hb b, cell_later hb c, cell_later hb d⟩
theorem Held.later {w w' : World} {bk bn bq : Nat} {Q : Nat → Nat} {K : Nat → ByteArray} {N : Nat → Int} (h : Held w bk bn bq Q K N) (hb : Below w.heap.size w w') : Held w' bk bn bq Q K N :=
  ⟨fun j hj => cell_later hb (h.key j hj), fun j hj => cell_later hb (h.num j hj), fun j hj => cell_later hb (h.ptr j hj), fun j hj => (h.exp j hj).later hb⟩
theorem Held.less {w : World} {bk bn bq : Nat} {Q : Nat → Nat} {K : Nat → ByteArray} {N : Nat → Int} (h : Held w bk bn bq Q K N) (i j : Nat) (hi : i < 3) (hj : j < 3) :
    Calls Try.prog 11 #[.slice (some ⟨bq, 0, none⟩) 3 3, .int .i64 i, .int .i64 j] w fun e w' => e = .returned (.bool (Pure.before (N i) (K i) (N j) (K j))) ∧ Below w.heap.size w w' :=
  less_any bq i j (Q i) (Q j) (K i) (K j) (N i) (N j) w hi hj (h.ptr i hi) (h.ptr j hj) (h.exp i hi) (h.exp j hj)

/-- The i-th of three. -/
def third {α : Type} (a b c : α) (j : Nat) : α := if j = 0 then a else if j = 1 then b else c
theorem three {p : Nat → Prop} (h0 : p 0) (h1 : p 1) (h2 : p 2) : ∀ j, j < 3 → p j := fun j hj => by
  rcases (show j = 0 ∨ j = 1 ∨ j = 2 by omega) with rfl | rfl | rfl
  · exact h0
  · exact h1
  · exact h2
theorem held_of {w1 w2 w3 w4 : World} {ka kb kc : ByteArray} {na nb nc : Int} {qa qb qc : Nat}
    (hb2 : Below ((w1.alloc (.cells #[.string ka, .string kb, .string kc] 31)).alloc (.cells #[.int .i64 na, .int .i64 nb, .int .i64 nc] 32)).heap.size ((w1.alloc (.cells #[.string ka, .string kb, .string kc] 31)).alloc (.cells #[.int .i64 na, .int .i64 nb, .int .i64 nc] 32)) w2)
    (ea : Exp w2 qa ka na) (hb3 : Below w2.heap.size w2 w3) (eb : Exp w3 qb kb nb) (hb4 : Below w3.heap.size w3 w4) (ec : Exp w4 qc kc nc) :
    Held (w4.alloc (.cells #[.pointer (some ⟨qa, 0, none⟩), .pointer (some ⟨qb, 0, none⟩), .pointer (some ⟨qc, 0, none⟩)] 33)) w1.heap.size (w1.heap.size + 1) w4.heap.size (third qa qb qc) (third ka kb kc) (third na nb nc) ∧
    Below w1.heap.size w1 (w4.alloc (.cells #[.pointer (some ⟨qa, 0, none⟩), .pointer (some ⟨qb, 0, none⟩), .pointer (some ⟨qc, 0, none⟩)] 33)) := by
  have s2 := hb2.size
  have s3 := hb3.size
  have s4 := hb4.size
  simp at s2
  have h25 : Below w2.heap.size w2 (w4.alloc (.cells #[.pointer (some ⟨qa, 0, none⟩), .pointer (some ⟨qb, 0, none⟩), .pointer (some ⟨qc, 0, none⟩)] 33)) := (hb3.trans (hb4.mono (by omega))).alloc (by omega) _
  have h35 : Below w3.heap.size w3 (w4.alloc (.cells #[.pointer (some ⟨qa, 0, none⟩), .pointer (some ⟨qb, 0, none⟩), .pointer (some ⟨qc, 0, none⟩)] 33)) := hb4.alloc (by omega) _
  have h45 : Below w4.heap.size w4 (w4.alloc (.cells #[.pointer (some ⟨qa, 0, none⟩), .pointer (some ⟨qb, 0, none⟩), .pointer (some ⟨qc, 0, none⟩)] 33)) := (Below.refl _ _).alloc (Nat.le_refl _) _
  have h05 := hb2.trans (h25.mono (by simp; omega))
  refine ⟨⟨three ?_ ?_ ?_, three ?_ ?_ ?_, three ?_ ?_ ?_, three (ea.later h25) (eb.later h35) (ec.later h45)⟩, ((Below.refl _ _).alloc (Nat.le_refl _) _).alloc (by simp) _ |>.trans (h05.mono (by simp; omega))⟩
  · exact cell_later h05 (by simp [third])
  · exact cell_later h05 (by simp [third])
  · exact cell_later h05 (by simp [third])
  · exact cell_later h05 (by simp [third])
  · exact cell_later h05 (by simp [third])
  · exact cell_later h05 (by simp [third])
  · simp [third]
  · simp [third]
  · simp [third]

set_option maxHeartbeats 4000000 in
set_option maxRecDepth 100000 in
theorem law (ka kb kc : ByteArray) (na nb nc : Int) (w : World) (ha : ka.size ≤ maxLen) (hb : kb.size ≤ maxLen) (hc : kc.size ≤ maxLen)
    (a0 : -9223372036854775808 ≤ na) (a1 : na ≤ 9223372036854775807) (b0 : -9223372036854775808 ≤ nb) (b1 : nb ≤ 9223372036854775807) (c0 : -9223372036854775808 ≤ nc) (c1 : nc ≤ 9223372036854775807) :
    Calls Try.prog 5 #[.string ka, .int .i64 na, .string kb, .int .i64 nb, .string kc, .int .i64 nc] w fun e w' => e = .returned (.bool true) ∧ Below w.heap.size w w' := by
  have HB := bytes_any ka kb kc na nb nc w ha hb hc
  unfold maxLen at ha hb hc
  go_enter Try.func5, Try.ntmps5
  go_wp2_with fail
  refine HB.mono ?_
  rintro e w1 ⟨⟨r, rfl⟩, rfl⟩
  clear HB
  cases r
  · go_wp2
    go_ret
    exact ⟨rfl, Below.refl _ _⟩
  by_cases ha1 : 262144 < ka.size
  · go_wp2
    go_ret
    exact ⟨rfl, Below.refl _ _⟩
  by_cases hb1 : 262144 < kb.size
  · go_wp2
    go_ret
    exact ⟨rfl, Below.refl _ _⟩
  by_cases hc1 : 262144 < kc.size
  · go_wp2
    go_ret
    exact ⟨rfl, Below.refl _ _⟩
  clear ha hb hc
  have da : decide ((262144 : Int) < (ka.size : Int)) = false := by simp; omega
  have db : decide ((262144 : Int) < (kb.size : Int)) = false := by simp; omega
  have dc : decide ((262144 : Int) < (kc.size : Int)) = false := by simp; omega
  go_wp2_with fail
  refine (new_any ka na _ a0 a1).mono ?_
  rintro e w2 ⟨qa, rfl, ea, hb2⟩
  go_wp2_with fail
  refine (new_any kb nb _ b0 b1).mono ?_
  rintro e w3 ⟨qb, rfl, eb, hb3⟩
  go_wp2_with fail
  refine (new_any kc nc _ c0 c1).mono ?_
  rintro e w4 ⟨qc, rfl, ec, hb4⟩
  have HH := held_of hb2 ea hb3 eb hb4 ec
  clear hb2 ea hb3 eb hb4 ec
  obtain ⟨hH, hB⟩ := HH
  generalize third qa qb qc = Q at hH
  generalize third ka kb kc = K at hH
  generalize third na nb nc = N at hH
  go_wp2
  generalize w4.alloc (.cells #[.pointer (some ⟨qa, 0, none⟩), .pointer (some ⟨qb, 0, none⟩), .pointer (some ⟨qc, 0, none⟩)] 33) = W at *
  generalize w4.heap.size = bq at *
  go_loopw [16] (fun i wr => ∃ i' : Nat, i' ≤ 3 ∧ i = .int .i64 i' ∧ Below W.heap.size W wr) (fun i _ => 3 - (intOf i).toNat)
  case atStart => exact ⟨0, by omega, rfl, Below.refl _ _⟩
  case round =>
    obtain ⟨i, hi, rfl, hbr⟩ := hrel
    by_cases hi3 : i < 3
    · have di : decide ((i : Int) < 3) = true := by simp; omega
      go_wp2
      go_loopw [17, 18, 19] (fun x y j wr2 => ∃ r j' : Nat, j' ≤ 3 ∧ r ≤ j' ∧ x = .int .i64 r ∧ y = .int .i64 r ∧ j = .int .i64 j' ∧ Below W.heap.size W wr2) (fun _ _ j _ => 3 - (intOf j).toNat)
      case atStart => exact ⟨0, 0, by omega, by omega, rfl, rfl, rfl, hbr⟩
      case round =>
        obtain ⟨r, j, hj, hrj, rfl, rfl, rfl, hbr2⟩ := hrel
        by_cases hj3 : j < 3
        · have h2 := hH.later hbr2
          have bi : (i : Int) < 3 := by omega
          have bj : (j : Int) < 3 := by omega
          cases hA : Pure.before (N i) (K i) (N j) (K j) <;> cases hB2 : Pure.before (N j) (K j) (N i) (K i)
          · -- neither: the same instant, the same key
            obtain ⟨hN0, hK0⟩ := Pure.before_total hA hB2
            have hN : (N i != N j) = false := by simpa using hN0
            have hK : ((K i).toList == (K j).toList) = true := hK0
            clear hN0 hK0
            have hbef : Hid (∀ wx, Calls Try.prog 12 #[.int .i64 (N j), .string (K j), .int .i64 (N i), .string (K i)] wx fun e w' => e = .returned (.bool false) ∧ w' = wx) := fun wx => by
              have := before_any (N j) (N i) (K j) (K i) wx
              rwa [hB2] at this
            go_wp2_with fail
            refine (h2.less j i hj3 hi3).mono ?_
            rintro e w5 ⟨rfl, hb5⟩
            rw [hB2]
            have h5 := h2.later hb5
            have g5 : Below W.heap.size W w5 := hbr2.trans (hb5.mono hbr2.size)
            clear hb5
            go_wp2_with fail
            refine (h5.less i j hi3 hj3).mono ?_
            rintro e w6 ⟨rfl, hb6⟩
            rw [hA]
            have h6 := h5.later hb6
            have g6 : Below W.heap.size W w6 := g5.trans (hb6.mono g5.size)
            clear hb6 h5 g5 h2
            have k1 := h6.num i hi3
            have k2 := h6.num j hj3
            have k3 := h6.key i hi3
            have k4 := h6.key j hj3
            go_wp2
            go_quiet ((go_at_call 12; exact Calls.quiet_of_same (hbef.out _)))
            go_wp2
            go_quiet (fail)
            go_wp2
            go_loopw [22] (fun k wr3 => ∃ k' : Nat, k' ≤ 3 ∧ k = .int .i64 k' ∧ Below W.heap.size W wr3) (fun k _ => 3 - (intOf k).toNat)
            case atStart => exact ⟨0, by omega, rfl, below_drewN (below_drewN g6 _) _⟩
            case round =>
              obtain ⟨k, hk, rfl, hbr3⟩ := hrel
              by_cases hk3 : k < 3
              · go_wp2
                go_roundw
                case rel => exact ⟨k + 1, by omega, by go_num, hbr3⟩
                case measure => simp [intOf]; omega
              · go_wp2
                go_roundw
                case rel => exact ⟨r, j + 1, by omega, by omega, by go_num, by go_num, by go_num, hbr3⟩
                case measure => simp [intOf]; omega
          · -- j before i
            have hbef : Hid (∀ wx, Calls Try.prog 12 #[.int .i64 (N j), .string (K j), .int .i64 (N i), .string (K i)] wx fun e w' => e = .returned (.bool true) ∧ w' = wx) := fun wx => by
              have := before_any (N j) (N i) (K j) (K i) wx
              rwa [hB2] at this
            go_wp2_with fail
            refine (h2.less j i hj3 hi3).mono ?_
            rintro e w5 ⟨rfl, hb5⟩
            rw [hB2]
            have h5 := h2.later hb5
            have g5 : Below W.heap.size W w5 := hbr2.trans (hb5.mono hbr2.size)
            clear hb5
            go_wp2_with fail
            refine (h5.less i j hi3 hj3).mono ?_
            rintro e w6 ⟨rfl, hb6⟩
            rw [hA]
            have h6 := h5.later hb6
            have g6 : Below W.heap.size W w6 := g5.trans (hb6.mono g5.size)
            clear hb6 h5 g5 h2
            have k1 := h6.num i hi3
            have k2 := h6.num j hj3
            have k3 := h6.key i hi3
            have k4 := h6.key j hj3
            go_wp2
            go_quiet ((go_at_call 12; exact Calls.quiet_of_same (hbef.out _)))
            go_wp2
            go_quiet (fail)
            go_wp2
            go_loopw [22] (fun k wr3 => ∃ k' : Nat, k' ≤ 3 ∧ k = .int .i64 k' ∧ Below W.heap.size W wr3) (fun k _ => 3 - (intOf k).toNat)
            case atStart => exact ⟨0, by omega, rfl, below_drewN (below_drewN g6 _) _⟩
            case round =>
              obtain ⟨k, hk, rfl, hbr3⟩ := hrel
              by_cases hk3 : k < 3
              · go_wp2
                go_roundw
                case rel => exact ⟨k + 1, by omega, by go_num, hbr3⟩
                case measure => simp [intOf]; omega
              · go_wp2
                go_roundw
                case rel => exact ⟨r + 1, j + 1, by omega, by omega, by go_num, by go_num, by go_num, hbr3⟩
                case measure => simp [intOf]; omega
          · -- i before j
            have hbef : Hid (∀ wx, Calls Try.prog 12 #[.int .i64 (N j), .string (K j), .int .i64 (N i), .string (K i)] wx fun e w' => e = .returned (.bool false) ∧ w' = wx) := fun wx => by
              have := before_any (N j) (N i) (K j) (K i) wx
              rwa [hB2] at this
            go_wp2_with fail
            refine (h2.less j i hj3 hi3).mono ?_
            rintro e w5 ⟨rfl, hb5⟩
            rw [hB2]
            have h5 := h2.later hb5
            have g5 : Below W.heap.size W w5 := hbr2.trans (hb5.mono hbr2.size)
            clear hb5
            go_wp2_with fail
            refine (h5.less i j hi3 hj3).mono ?_
            rintro e w6 ⟨rfl, hb6⟩
            rw [hA]
            have h6 := h5.later hb6
            have g6 : Below W.heap.size W w6 := g5.trans (hb6.mono g5.size)
            clear hb6 h5 g5 h2
            have k1 := h6.num i hi3
            have k2 := h6.num j hj3
            have k3 := h6.key i hi3
            have k4 := h6.key j hj3
            go_wp2
            go_quiet ((go_at_call 12; exact Calls.quiet_of_same (hbef.out _)))
            go_wp2
            go_quiet (fail)
            go_wp2
            go_loopw [22] (fun k wr3 => ∃ k' : Nat, k' ≤ 3 ∧ k = .int .i64 k' ∧ Below W.heap.size W wr3) (fun k _ => 3 - (intOf k).toNat)
            case atStart => exact ⟨0, by omega, rfl, below_drewN (below_drewN g6 _) _⟩
            case round =>
              obtain ⟨k, hk, rfl, hbr3⟩ := hrel
              by_cases hk3 : k < 3
              · have h7 := hH.later hbr3
                cases hC : Pure.before (N j) (K j) (N k) (K k)
                · go_wp2_with fail
                  refine (h7.less j k hj3 hk3).mono ?_
                  rintro e w8 ⟨rfl, hb8⟩
                  rw [hC]
                  have g8 : Below W.heap.size W w8 := hbr3.trans (hb8.mono hbr3.size)
                  go_wp2
                  go_roundw
                  case rel => exact ⟨k + 1, by omega, by go_num, g8⟩
                  case measure => simp [intOf]; omega
                · have hD := Pure.before_trans hA hC
                  go_wp2_with fail
                  refine (h7.less j k hj3 hk3).mono ?_
                  rintro e w8 ⟨rfl, hb8⟩
                  rw [hC]
                  have h8 := h7.later hb8
                  have g8 : Below W.heap.size W w8 := hbr3.trans (hb8.mono hbr3.size)
                  clear hb8
                  go_wp2_with fail
                  refine (h8.less i k hi3 hk3).mono ?_
                  rintro e w9 ⟨rfl, hb9⟩
                  rw [hD]
                  have g9 : Below W.heap.size W w9 := g8.trans (hb9.mono g8.size)
                  go_wp2
                  go_roundw
                  case rel => exact ⟨k + 1, by omega, by go_num, g9⟩
                  case measure => simp [intOf]; omega
              · go_wp2
                go_roundw
                case rel => exact ⟨r, j + 1, by omega, by omega, by go_num, by go_num, by go_num, hbr3⟩
                case measure => simp [intOf]; omega
          · have := Pure.before_asymm hA
            rw [hB2] at this
            cases this
        · go_wp2
          go_roundw
          case rel => exact ⟨i + 1, by omega, by go_num, hbr2⟩
          case measure => simp [intOf]; omega
    · have hB' : Below w1.heap.size w1 wr := hB.trans (hbr.mono hB.size)
      go_wp2
      go_ret
      exact ⟨rfl, hB'⟩

end Go.Proofs.Qxb6615586a
