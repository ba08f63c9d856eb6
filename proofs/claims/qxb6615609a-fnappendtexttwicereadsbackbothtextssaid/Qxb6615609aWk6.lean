/-
  THE WALKS (6): the law FnAppendTextTwiceReadsBackBothTexts.
-/
import Derived.Test.Qxb6615609aWk5
namespace Go.Proofs.Qxb6615609a
open Go.RowKit

theorem own_cells {w : World} {B g n cap : Nat} {zs : List Int} (h : w.ownsRow B 5 1 (.slice (some ⟨g, 0, none⟩) n cap) n (cellsOf zs)) : ∀ i, i < n → w.cell? ⟨g, i, none⟩ = some (.int .u8 (zs.getD i 0)) := fun i hi => by
  have hl : zs.length = n := by have := h.1; simp [cellsOf] at this; omega
  rw [h.cellAt i (by omega), cellsOf, List.getElem?_map, List.getElem?_eq_getElem (by omega), List.getD_eq_getElem?_getD, List.getElem?_eq_getElem (by omega)]
  rfl
theorem own_cap {w : World} {B g n cap : Nat} {xs : List Value} (h : w.ownsRow B 5 1 (.slice (some ⟨g, 0, none⟩) n cap) n xs) : n ≤ cap ∧ B ≤ g ∧ g < w.heap.size := by
  rcases h.2 with ⟨h', _⟩ | ⟨g0, cap0, cur, h', hbg, hg, hnc, _⟩
  · cases h'
  · cases h'
    obtain ⟨hlt, _⟩ := Array.getElem?_eq_some_iff.1 hg
    exact ⟨hnc, hbg, hlt⟩
theorem own_later {w w' : World} {B g n cap : Nat} {xs : List Value} (h : w.ownsRow B 5 1 (.slice (some ⟨g, 0, none⟩) n cap) n xs) (hb : Below w.heap.size w w') : w'.ownsRow B 5 1 (.slice (some ⟨g, 0, none⟩) n cap) n xs := by
  have hlt := (own_cap h).2.2
  rcases h.2 with ⟨h', _⟩ | ⟨g0, cap0, cur, h', hbg, hg, hnc, r⟩
  · cases h'
  · cases h'
    exact ⟨h.1, .inr ⟨g, cap, cur, rfl, hbg, (hb.block g hlt).trans hg, hnc, r⟩⟩
theorem getD_left {xs ys : List Int} {j : Nat} (h : j < xs.length) : (xs ++ ys).getD j 0 = xs.getD j 0 := by
  simp only [List.getD_eq_getElem?_getD]; rw [List.getElem?_append_left h]
theorem getD_right {xs ys : List Int} (j : Nat) : (xs ++ ys).getD (xs.length + j) 0 = ys.getD j 0 := by
  simp only [List.getD_eq_getElem?_getD]; rw [List.getElem?_append_right (by omega), Nat.add_sub_cancel_left]
theorem getD_range (n : Nat) (Z : Nat → Int) {i : Nat} (h : i < n) : ((List.range n).map Z).getD i 0 = Z i := by
  simp [List.getD_eq_getElem?_getD, h]

set_option maxHeartbeats 2000000 in
set_option maxRecDepth 100000 in
theorem law_some (x : Addr) (n cap : Nat) (Z : Nat → Int) (a b : ByteArray) (w : World) (hn : n ≤ maxLen) (ha : a.size ≤ maxLen) (hb : b.size ≤ maxLen) (hr : Bytes w x n Z) :
    Calls Try.prog 4 #[.slice (some x) n cap, .string a, .string b] w fun e w' => e = .returned (.bool true) ∧ Below w.heap.size w w' := by
  have HB := bytes_any (some x) n cap a b w hn ha hb
  unfold maxLen at hn ha hb
  have hua := uv_len a.size
  have hub := uv_len b.size
  go_enter Try.func4, Try.ntmps4
  go_wp2_with fail
  refine HB.mono ?_
  rintro e w0 ⟨⟨r, rfl⟩, rfl⟩
  clear HB
  cases r
  · go_wp2
    go_ret
    exact ⟨rfl, Below.refl _ _⟩
  by_cases h1 : 1048576 < n
  · go_wp2
    go_ret
    exact ⟨rfl, Below.refl _ _⟩
  by_cases h2 : 1048576 < a.size
  · go_wp2
    go_ret
    exact ⟨rfl, Below.refl _ _⟩
  by_cases h3 : 1048576 < b.size
  · go_wp2
    go_ret
    exact ⟨rfl, Below.refl _ _⟩
  by_cases h4 : 1048576 < n + a.size
  · go_wp2
    go_ret
    exact ⟨rfl, Below.refl _ _⟩
  by_cases h5 : 1048576 < n + a.size + b.size
  · go_wp2
    go_ret
    exact ⟨rfl, Below.refl _ _⟩
  clear hn ha hb
  have e1 : decide ((1048576 : Int) < (n : Int)) = false := by simp; omega
  have e2 : decide ((1048576 : Int) < (a.size : Int)) = false := by simp; omega
  have e3 : decide ((1048576 : Int) < (b.size : Int)) = false := by simp; omega
  have e4 : decide ((1048576 : Int) < (n : Int) + (a.size : Int)) = false := by simp; omega
  have e5 : decide ((1048576 : Int) < (n : Int) + (a.size : Int) + (b.size : Int)) = false := by simp; omega
  go_wp2_with fail
  refine (clone_some w0.heap.size x n cap Z w0 (Nat.le_refl _) (by omega) hr).mono ?_
  rintro e w1 ⟨rfl, own1, bel1, size1⟩
  have hr1 : Bytes w1 ⟨w0.heap.size, 0, none⟩ n Z := .inr ⟨w0.heap.size, 0, rfl, by omega, fun i hi => by rw [Nat.zero_add, own_cells own1 i hi, getD_range n Z hi]⟩
  go_wp2_with fail
  refine (clone_some w0.heap.size ⟨w0.heap.size, 0, none⟩ n n Z w1 (by omega) (by omega) hr1).mono ?_
  rintro e w2 ⟨rfl, own2, bel2, size2⟩
  have own1' := own_later own1 bel2
  have bel02 : Below w0.heap.size w0 w2 := bel1.trans (bel2.mono (by omega))
  have want2 : ∀ i, i < n → w2.cell? ⟨w0.heap.size + 1, i, none⟩ = some (.int .u8 (Z i)) := fun i hi => by
    rw [← size1, own_cells own2 i hi, getD_range n Z hi]
  rw [size1]
  clear own1 own2 bel1 bel2 hr1 hr
  generalize hzs : (List.range n).map Z = zs at own1'
  have hzl : zs.length = n := by rw [← hzs]; simp
  have hzZ : ∀ i, i < n → zs.getD i 0 = Z i := fun i hi => by rw [← hzs]; exact getD_range n Z hi
  clear hzs
  have la : (text a).length ≤ a.size + 3 := by rw [text_length]; omega
  have lb : (text b).length ≤ b.size + 3 := by rw [text_length]; omega
  clear hua hub
  go_wp2_with fail
  refine (zztext_any w0.heap.size n a _ zs w2 (by omega) own1' (by omega) (by omega)).mono ?_
  rintro e w3 ⟨g2, c2, rfl, own3, grow3, at3⟩
  have z3 := grow3.size
  have want3 : ∀ i, i < n → w3.cell? ⟨w0.heap.size + 1, i, none⟩ = some (.int .u8 (Z i)) := fun i hi => grow3.cell (want2 i hi) (by simp [Value.ownBlock])
  have bel03 : Below w0.heap.size w0 w3 := bel02.grown grow3 (by omega) (fun k hk => by simp [Value.ownBlock] at hk; omega)
  have k2 : g2 = w0.heap.size ∨ w0.heap.size + 2 ≤ g2 := by
    rcases at3 with h | h
    · left; simpa [Value.ownBlock] using h.symm
    · right; omega
  clear own1' bel02 want2 grow3 at3
  go_wp2_with fail
  refine (zztext_any w0.heap.size (n + (text a).length) b _ (zs ++ text a) w3 (by omega) own3 (by omega) (by omega)).mono ?_
  rintro e w4 ⟨g3, c3, rfl, own4, grow4, at4⟩
  have want4 : ∀ i, i < n → w4.cell? ⟨w0.heap.size + 1, i, none⟩ = some (.int .u8 (Z i)) := fun i hi => grow4.cell (want3 i hi) (by simp [Value.ownBlock]; omega)
  have bel04 : Below w0.heap.size w0 w4 := bel03.grown grow4 (by omega) (fun k hk => by simp [Value.ownBlock] at hk; omega)
  have all4 := own_cells own4
  have cap4 := (own_cap own4).1
  clear own3 own4 want3 bel03 grow4 at4 k2
  obtain ⟨Y, hY⟩ : ∃ Y : Nat → Int, Y = fun j => (zs ++ text a ++ text b).getD j 0 := ⟨_, rfl⟩
  have yw : ∀ i, i < n → Y i = Z i := fun i hi => by
    rw [hY]; show (zs ++ text a ++ text b).getD i 0 = Z i
    rw [getD_left (by simp; omega), getD_left (by omega), hzZ i hi]
  have ya : ∀ j, j < (text a).length → Y (n + j) = (text a).getD j 0 := fun j hj => by
    rw [hY]; show (zs ++ text a ++ text b).getD (n + j) 0 = _
    rw [getD_left (by simp; omega), ← hzl, getD_right]
  have yb : ∀ j, j < (text b).length → Y (n + (text a).length + j) = (text b).getD j 0 := fun j hj => by
    rw [hY]; show (zs ++ text a ++ text b).getD (n + (text a).length + j) 0 = _
    rw [show n + (text a).length = (zs ++ text a).length by simp [hzl], getD_right]
  have all5 : ∀ i, i < n + (text a).length + (text b).length → w4.cell? ⟨g3, i, none⟩ = some (.int .u8 (Y i)) := fun i hi => by rw [all4 i hi, hY]
  clear all4 hY hzZ
  have RA := fun m => readText_any g3 (n + (text a).length + (text b).length) c3 n a Y (w4.drewN m) (by omega) cap4 (by omega) (by omega) all5 ya
  have RB := fun m => readText_any g3 (n + (text a).length + (text b).length) c3 (n + (text a).length) b Y (w4.drewN m) (by omega) cap4 (by omega) (by omega) all5 yb
  have HA : Hid (∀ m, Calls Try.prog 12 #[.slice (some ⟨g3, 0, none⟩) (n + (text a).length + (text b).length) c3, .int .i64 n, .string a] (w4.drewN m) fun e w' => e = .returned (.tuple #[.int .i64 (n + (text a).length : Nat), .bool true]) ∧ ∃ m', w' = (w4.drewN m).drewN m') := RA
  have HBt : Hid (∀ m, Calls Try.prog 12 #[.slice (some ⟨g3, 0, none⟩) (n + (text a).length + (text b).length) c3, .int .i64 (n + (text a).length : Nat), .string b] (w4.drewN m) fun e w' => e = .returned (.tuple #[.int .i64 (n + (text a).length + (text b).length : Nat), .bool true]) ∧ ∃ m', w' = (w4.drewN m).drewN m') := RB
  have HC : Hid (∀ i, i < n → w4.cell? ⟨g3, i, none⟩ = some (.int .u8 (Z i))) := fun i hi => by rw [all5 i (by omega), yw i hi]
  have HD : Hid (∀ i, i < n → w4.cell? ⟨w0.heap.size + 1, i, none⟩ = some (.int .u8 (Z i))) := want4
  clear RA RB all5 ya yb yw want4 hzl
  generalize (text a).length = ta at *
  generalize (text b).length = tb at *
  go_wp2
  go_loopw [10] (fun i wr => ∃ k : Nat, k ≤ n ∧ i = .int .i64 k ∧ ∃ m, wr = w4.drewN m) (fun i _ => n - (intOf i).toNat)
  case atStart => exact ⟨0, by omega, rfl, 0, rfl⟩
  case round =>
    obtain ⟨k, hk, rfl, m, rfl⟩ := hrel
    by_cases hkn : k < n
    · have f1 := HC.out k hkn
      have f2 := HD.out k hkn
      have b1 : (k : Int) < (n : Int) := by omega
      have b2 : (k : Int) < (n : Int) + (ta : Int) + (tb : Int) := by omega
      go_wp2
      go_quiet (fail)
      go_wp2
      go_roundw
      case rel => exact ⟨k + 1, by omega, by go_num, _, rfl⟩
      case measure => simp [intOf]; omega
    · go_wp2_with fail
      refine (HA.out m).mono ?_
      rintro e w5 ⟨rfl, m1, rfl⟩
      have HB2 := HBt.out (m + m1)
      rw [show ((n + ta : Nat) : Int) = (n : Int) + (ta : Int) by omega] at HB2
      go_wp2_with fail
      refine HB2.mono ?_
      rintro e w6 ⟨rfl, m2, rfl⟩
      go_wp2
      go_ret
      exact ⟨rfl, below_drewN bel04 _⟩

set_option maxHeartbeats 2000000 in
set_option maxRecDepth 100000 in
theorem law_nil (a b : ByteArray) (w : World) (ha : a.size ≤ maxLen) (hb : b.size ≤ maxLen) :
    Calls Try.prog 4 #[.slice none 0 0, .string a, .string b] w fun e w' => e = .returned (.bool true) ∧ Below w.heap.size w w' := by
  have HB := bytes_any none 0 0 a b w (by unfold maxLen; omega) ha hb
  unfold maxLen at ha hb
  have hua := uv_len a.size
  have hub := uv_len b.size
  go_enter Try.func4, Try.ntmps4
  go_wp2_with fail
  refine HB.mono ?_
  rintro e w0 ⟨⟨r, rfl⟩, rfl⟩
  clear HB
  cases r
  · go_wp2
    go_ret
    exact ⟨rfl, Below.refl _ _⟩
  by_cases h2 : 1048576 < a.size
  · go_wp2
    go_ret
    exact ⟨rfl, Below.refl _ _⟩
  by_cases h3 : 1048576 < b.size
  · go_wp2
    go_ret
    exact ⟨rfl, Below.refl _ _⟩
  by_cases h5 : 1048576 < a.size + b.size
  · go_wp2
    go_ret
    exact ⟨rfl, Below.refl _ _⟩
  clear ha hb
  go_wp2_with fail
  refine (clone_nil w0).mono ?_
  rintro e w1 ⟨rfl, rfl⟩
  go_wp2_with fail
  refine (clone_nil w1).mono ?_
  rintro e w2 ⟨rfl, rfl⟩
  have la : (text a).length ≤ a.size + 3 := by rw [text_length]; omega
  have lb : (text b).length ≤ b.size + 3 := by rw [text_length]; omega
  clear hua hub
  go_wp2_with fail
  refine (zztext_any w2.heap.size 0 a _ [] w2 (by omega) (World.ownsRow_nil _ _ _ _) (by omega) (by omega)).mono ?_
  rintro e w3 ⟨g2, c2, rfl, own3, grow3, at3⟩
  have z3 := grow3.size
  have bel03 : Below w2.heap.size w2 w3 := (Below.refl _ _).grown grow3 (by omega) (fun k hk => by simp [Value.ownBlock] at hk)
  have k2 : w2.heap.size ≤ g2 := by
    rcases at3 with h | h
    · simp [Value.ownBlock] at h
    · exact h
  rw [Nat.zero_add, List.nil_append] at own3
  clear grow3 at3
  rw [Nat.zero_add]
  go_wp2_with fail
  refine (zztext_any w2.heap.size (text a).length b _ (text a) w3 (by omega) own3 (by omega) (by omega)).mono ?_
  rintro e w4 ⟨g3, c3, rfl, own4, grow4, at4⟩
  have bel04 : Below w2.heap.size w2 w4 := bel03.grown grow4 (by omega) (fun k hk => by simp [Value.ownBlock] at hk; omega)
  have all4 := own_cells own4
  have cap4 := (own_cap own4).1
  clear own3 own4 bel03 grow4 at4 k2
  have RA := readText_any g3 ((text a).length + (text b).length) c3 0 a (fun j => (text a ++ text b).getD j 0) w4 (by omega) cap4 (by omega) (by omega) all4 (fun j hj => by rw [Nat.zero_add, getD_left hj])
  have RB := fun m => readText_any g3 ((text a).length + (text b).length) c3 (text a).length b (fun j => (text a ++ text b).getD j 0) (w4.drewN m) (by omega) cap4 (by omega) (by omega) all4 (fun j hj => by rw [getD_right])
  rw [Nat.zero_add] at RA
  have HA : Hid (Calls Try.prog 12 #[.slice (some ⟨g3, 0, none⟩) ((text a).length + (text b).length) c3, .int .i64 0, .string a] w4 fun e w' => e = .returned (.tuple #[.int .i64 ((text a).length : Nat), .bool true]) ∧ ∃ m', w' = w4.drewN m') := RA
  have HBt : Hid (∀ m, Calls Try.prog 12 #[.slice (some ⟨g3, 0, none⟩) ((text a).length + (text b).length) c3, .int .i64 ((text a).length : Nat), .string b] (w4.drewN m) fun e w' => e = .returned (.tuple #[.int .i64 ((text a).length + (text b).length : Nat), .bool true]) ∧ ∃ m', w' = (w4.drewN m).drewN m') := RB
  clear RA RB all4
  generalize (text a).length = ta at *
  generalize (text b).length = tb at *
  go_wp2
  refine wp_loop_rounds 1 ?_
  rw [rounds_succ]
  go_wp2_with fail
  refine HA.out.mono ?_
  rintro e w5 ⟨rfl, m1, rfl⟩
  go_wp2_with fail
  refine (HBt.out m1).mono ?_
  rintro e w6 ⟨rfl, m2, rfl⟩
  go_wp2
  go_ret
  exact ⟨rfl, below_drewN bel04 _⟩

end Go.Proofs.Qxb6615609a
