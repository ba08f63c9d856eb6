/-
  THE WALKS (5): the law FnFindInsertOrRemoveRoundTrip.
-/
import Derived.Test.Qxb6608990aWk4
namespace Go.Proofs.Qxb6608990a
open Go.RowKit

theorem Try.info9 : (Try.prog.info? 9).map (fun i => (i.zero, i.size, i.bytes)) = some (some (.string ByteArray.empty), 1, 16) := by kernel_rfl

/-- The cells of the first k strings of G. -/
def cellsTo (G : Nat → ByteArray) (k : Nat) : List Value := (List.range k).map fun j => .string (G j)
theorem cellsTo_succ {G : Nat → ByteArray} {k : Nat} {v : ByteArray} (h : G k = v) : cellsTo G k ++ [.string v] = cellsTo G (k + 1) := by
  simp [cellsTo, List.range_succ, h]
theorem row_owned {w : World} {B g k cap : Nat} {G : Nat → ByteArray} (h : w.ownsRow B 9 1 (.slice (some ⟨g, 0, none⟩) k cap) k (cellsTo G k)) : StrRow w (some ⟨g, 0, none⟩) k G := by
  by_cases h0 : k = 0
  · exact .inl h0
  · have hc : ∀ i, i < k → w.cell? ⟨g, 0 + i, none⟩ = some (.string (G i)) := fun i hi => by
      rw [Nat.zero_add, h.cellAt i (by omega)]; simp [cellsTo, hi]
    exact .inr ⟨g, 0, rfl, World.block_lt_of_cell? w _ (hc 0 (by omega)), hc⟩

theorem grow_step {B g : Nat} {w wr w9 : World} {o : Obj} (hgB : B ≤ g) (hbr : Below B w wr) (hgr : g ≤ wr.heap.size) (hg : (wr.alloc o).grownBy w9 (some g)) : Below B w w9 ∧ g ≤ w9.heap.size := by
  have h1 := hg.size
  simp at h1
  refine ⟨(hbr.alloc (by omega) o).grown hg (by simp; omega) (fun k hk => by cases hk; exact hgB), by omega⟩

set_option maxHeartbeats 2000000 in
set_option maxRecDepth 100000 in
theorem lawRound (a : Option Addr) (n cap : Nat) (S : Nat → ByteArray) (t : ByteArray) (w : World) (hn : n ≤ maxLen) (ht : t.size ≤ maxLen) (hr : StrRow w a n S) :
    Calls Try.prog 5 #[.slice a n cap, .string t] w fun e w' => e = .returned (.bool true) ∧ Below w.heap.size w w' := by
  unfold maxLen at ht
  obtain ⟨i0, hi, hz0, hz1, hz2⟩ := info_parts Try.info9
  go_enter Try.func5, Try.ntmps5
  go_wp2_with fail
  refine (bytesRound_any a n cap S t w hn hr).mono ?_
  rintro e w1 ⟨⟨r, rfl, hr1⟩, rfl⟩
  cases r
  · go_wp2
    go_ret
    exact ⟨rfl, Below.refl _ _⟩
  have hn1 := hr1 rfl
  clear hr1
  go_wp2_with fail
  refine (addStrings_any a n cap S _ hn1 hr).mono ?_
  rintro e w2 ⟨r, rfl, hr0, hr1, rfl⟩
  go_wp2_with fail
  refine (addLen_any r t.size _ hr0 hr1 (by omega)).mono ?_
  rintro e w3 ⟨r', rfl, hr0', hr1', rfl⟩
  by_cases htot : 1048576 < r'
  · go_wp2
    go_ret
    exact ⟨rfl, Below.refl _ _⟩
  go_wp2_with fail
  refine (sorted_any a n cap S _ (by omega) hr).mono ?_
  rintro e w4 ⟨rfl, m, rfl⟩
  by_cases hs : Pure.srt S n = true
  · rw [hs]
    have hsrt := Pure.srt_Srt hs
    clear hs
    go_wp2_with fail
    refine (profiles_any a n cap S _ (by omega) (hr.drewN m)).mono ?_
    rintro e w5 ⟨rfl, hprof, hbel0⟩
    have hbel : Below w3.heap.size w3 w5 := (below_drewN (Below.refl _ _) m).trans hbel0
    clear hbel0
    have hrow := hr.later hbel
    go_wp2_with fail
    refine (find_any _ n n S t w5 (by omega) hprof hsrt).mono ?_
    rintro e w6 ⟨rfl, rfl⟩
    go_wp2_with fail
    refine (member_any a n cap S t w6 (by omega) hrow).mono ?_
    rintro e w7 ⟨rfl, rfl⟩
    have hle := Pure.cnt_le S t n
    have HW : Hid (Pure.mem S t n = (decide (Pure.cnt S t n < n) && Pure.eq (S (Pure.cnt S t n)) t)) := Pure.want_ok t hsrt
    cases hm : Pure.mem S t n
    · have HP : Hid (Pure.Srt (Pure.put S (Pure.cnt S t n) t) (n + 1) ∧ Pure.cnt (Pure.put S (Pure.cnt S t n) t) t (n + 1) = Pure.cnt S t n ∧ Pure.mem (Pure.put S (Pure.cnt S t n) t) t (n + 1) = true) :=
        ⟨Pure.put_srt hsrt hm, Pure.put_cnt hsrt, Pure.put_mem S t hle⟩
      clear hm HW hsrt hprof
      generalize Pure.cnt S t n = L at *
      go_wp2_with (at_make; refine wpList_make_own _ rfl _ _ 22 rfl w7.heap.size 9 i0 (.string ByteArray.empty) 1 Try.underlying22 hi hz0 hz1 _ _ _ (n + 1) rfl rfl (by omega) ?b2 ?b3 (Nat.le_refl _) ?_)
      case b2 => rw [hz2]; omega
      case b3 => unfold maxLen; omega
      intro w8 hown0 hgrow0
      have hb8 : Below w3.heap.size w3 w8 := hbel.grown hgrow0 hbel.size (fun k h => by cases h)
      have hgB : w3.heap.size ≤ w7.heap.size := hbel.size
      have hg8 : w7.heap.size ≤ w8.heap.size := hgrow0.size
      clear hgrow0 hbel hrow
      generalize w7.heap.size = g at *
      obtain ⟨G, hG⟩ : ∃ G, G = Pure.put S L t := ⟨_, rfl⟩
      have g1 : ∀ j, j < L → G j = S j := fun j hj => by rw [hG]; simp [Pure.put, hj]
      have g2 : G L = t := by rw [hG]; simp [Pure.put]
      have g3 : ∀ j, L ≤ j → G (j + 1) = S j := fun j hj => by rw [hG]; simp [Pure.put, show ¬ j + 1 < L by omega, show ¬ j + 1 = L by omega]
      rw [← hG] at HP
      clear hG
      have G1 : Hid (∀ j, j < L → G j = S j) := g1
      have G2 : Hid (G L = t) := g2
      have G3 : Hid (∀ j, L ≤ j → G (j + 1) = S j) := g3
      clear g1 g2 g3
      have HO : Hid (w8.ownsRow g 9 1 (.slice (some ⟨g, 0, none⟩) 0 (n + 1)) 0 (cellsTo G 0)) := hown0
      clear hown0
      go_wp2
      go_loopw [8, 9] (fun v i wr => ∃ k : Nat, k ≤ L ∧ i = .int .i64 k ∧ v = .slice (some ⟨g, 0, none⟩) k (n + 1) ∧ wr.ownsRow g 9 1 (.slice (some ⟨g, 0, none⟩) k (n + 1)) k (cellsTo G k) ∧ Below w3.heap.size w3 wr ∧ g ≤ wr.heap.size) (fun _ i _ => L - (intOf i).toNat)
      case atStart => exact ⟨0, by omega, rfl, rfl, HO, hb8, hg8⟩
      case round =>
        obtain ⟨k, hk, rfl, rfl, hown, hbr, hgr⟩ := hrel
        by_cases hkL : k < L
        · rcases hr.later hbr with h0 | ⟨b, off, rfl, _, hcell⟩
          · omega
          have hcl := hcell k (by omega)
          clear hcell
          go_wp2_with (at_builtin; refine wpList_append_fits _ rfl (.tmp 63) (.tmp 68) 22 rfl g 9 i0 1 Try.underlying22 hi hz1 g k (n + 1) _ rfl (hown.alloc _) ⟨wr.heap.size, 0, none⟩ 1 1 [.string (S k)] rfl rfl (cell_one_new _ _ _) (by intro u hu; simp at hu; subst hu; rfl) (by omega) ?_; intro w9 hown1 hgrow1)
          have R := grow_step hgB hbr hgr hgrow1
          rw [cellsTo_succ (G1.out k hkL)] at hown1
          go_roundw
          case rel => exact ⟨k + 1, by omega, by go_num, rfl, hown1, R.1, R.2⟩
          case measure => simp [intOf]; omega
        · obtain rfl : k = L := by omega
          go_wp2_with (at_builtin; refine wpList_append_fits _ rfl (.tmp 70) (.tmp 72) 22 rfl g 9 i0 1 Try.underlying22 hi hz1 g k (n + 1) _ rfl (hown.alloc _) ⟨wr.heap.size, 0, none⟩ 1 1 [.string t] rfl rfl (cell_one_new _ _ _) (by intro u hu; simp at hu; subst hu; rfl) (by omega) ?_; intro w9 hown1 hgrow1)
          have R := grow_step hgB hbr hgr hgrow1
          rw [cellsTo_succ G2.out] at hown1
          have HO9 : Hid (w9.ownsRow g 9 1 (.slice (some ⟨g, 0, none⟩) (k + 1) (n + 1)) (k + 1) (cellsTo G (k + 1))) := hown1
          clear hown1 hgrow1 hown hbr hgr
          go_loopw [8, 10] (fun v i wr => ∃ l : Nat, k ≤ l ∧ l ≤ n ∧ i = .int .i64 l ∧ v = .slice (some ⟨g, 0, none⟩) (l + 1) (n + 1) ∧ wr.ownsRow g 9 1 (.slice (some ⟨g, 0, none⟩) (l + 1) (n + 1)) (l + 1) (cellsTo G (l + 1)) ∧ Below w3.heap.size w3 wr ∧ g ≤ wr.heap.size) (fun _ i _ => n - (intOf i).toNat)
          case atStart => exact ⟨k, by omega, by omega, rfl, rfl, HO9, R.1, R.2⟩
          case round =>
            obtain ⟨l, hkl, hl, rfl, rfl, hown, hbr, hgr⟩ := hrel
            by_cases hln : l < n
            · rcases hr.later hbr with h0 | ⟨b, off, rfl, _, hcell⟩
              · omega
              have hcl := hcell l (by omega)
              clear hcell
              go_wp2_with (at_builtin; refine wpList_append_fits _ rfl (.tmp 81) (.tmp 86) 22 rfl g 9 i0 1 Try.underlying22 hi hz1 g (l + 1) (n + 1) _ rfl (hown.alloc _) ⟨wr.heap.size, 0, none⟩ 1 1 [.string (S l)] rfl rfl (cell_one_new _ _ _) (by intro u hu; simp at hu; subst hu; rfl) (by omega) ?_; intro w10 hown1 hgrow1)
              have R := grow_step hgB hbr hgr hgrow1
              rw [cellsTo_succ (G3.out l hkl)] at hown1
              go_roundw
              case rel => exact ⟨l + 1, by omega, by omega, by go_num, rfl, hown1, R.1, R.2⟩
              case measure => simp [intOf]; omega
            · obtain rfl : l = n := by omega
              have hrow := row_owned hown
              clear HO9 HO R hr
              go_wp2_with fail
              refine (profiles_any _ (l + 1) (l + 1) G wr (by omega) hrow).mono ?_
              rintro e w11 ⟨rfl, hprof, hbel0⟩
              have hrow2 := hrow.later hbel0
              have hb11 : Below w3.heap.size w3 w11 := hbr.trans (hbel0.mono (by omega))
              clear hbel0 hbr hown hrow
              go_wp2_with fail
              refine (find_any _ (l + 1) (l + 1) G t w11 (by omega) hprof HP.out.1).mono ?_
              rintro e w12 ⟨rfl, rfl⟩
              rw [HP.out.2.1, HP.out.2.2]
              go_wp2_with fail
              refine (sorted_any _ (l + 1) (l + 1) G w12 (by omega) hrow2).mono ?_
              rintro e w13 ⟨rfl, m2, rfl⟩
              rw [Pure.Srt_srt HP.out.1]
              go_wp2
              go_ret
              exact ⟨rfl, below_drewN hb11 _⟩
    · have HP : Hid (Pure.Srt (Pure.out S (Pure.cnt S t n)) (n - 1) ∧ Pure.cnt (Pure.out S (Pure.cnt S t n)) t (n - 1) = Pure.cnt S t n ∧ Pure.mem (Pure.out S (Pure.cnt S t n)) t (n - 1) = false) :=
        ⟨Pure.out_srt _ hsrt, (Pure.out_both hsrt hm).1, (Pure.out_both hsrt hm).2⟩
      have hw := HW.out
      rw [hm] at hw
      have hLn : Pure.cnt S t n < n := by
        by_cases e : Pure.cnt S t n < n
        · exact e
        · simp [e] at hw
      have hq : ((S (Pure.cnt S t n)).toList == t.toList) = true := by simpa [hLn, Pure.eq] using hw.symm
      clear hm HW hsrt hprof hw
      generalize Pure.cnt S t n = L at *
      rcases hrow with h0 | ⟨b, off, rfl, _, hcell⟩
      · omega
      have hcl := hcell L (by omega)
      clear hcell
      go_wp2_with (at_make; refine wpList_make_own _ rfl _ _ 22 rfl w7.heap.size 9 i0 (.string ByteArray.empty) 1 Try.underlying22 hi hz0 hz1 _ _ _ n rfl rfl (by omega) ?b2 ?b3 (Nat.le_refl _) ?_)
      case b2 => rw [hz2]; omega
      case b3 => unfold maxLen; omega
      intro w8 hown0 hgrow0
      have hb8 : Below w3.heap.size w3 w8 := hbel.grown hgrow0 hbel.size (fun k h => by cases h)
      have hgB : w3.heap.size ≤ w7.heap.size := hbel.size
      have hg8 : w7.heap.size ≤ w8.heap.size := hgrow0.size
      clear hgrow0 hbel hcl hq
      generalize w7.heap.size = g at *
      obtain ⟨G, hG⟩ : ∃ G, G = Pure.out S L := ⟨_, rfl⟩
      have g1 : ∀ j, j < L → G j = S j := fun j hj => by rw [hG]; simp [Pure.out, hj]
      have g3 : ∀ j, L ≤ j → G j = S (j + 1) := fun j hj => by rw [hG]; simp [Pure.out, show ¬ j < L by omega]
      rw [← hG] at HP
      clear hG
      have G1 : Hid (∀ j, j < L → G j = S j) := g1
      have G3 : Hid (∀ j, L ≤ j → G j = S (j + 1)) := g3
      clear g1 g3
      have HO : Hid (w8.ownsRow g 9 1 (.slice (some ⟨g, 0, none⟩) 0 n) 0 (cellsTo G 0)) := hown0
      clear hown0
      go_wp2
      go_loopw [13, 14] (fun v i wr => ∃ k l : Nat, k ≤ n ∧ ((k ≤ L ∧ l = k) ∨ (L < k ∧ l + 1 = k)) ∧ i = .int .i64 k ∧ v = .slice (some ⟨g, 0, none⟩) l n ∧ wr.ownsRow g 9 1 (.slice (some ⟨g, 0, none⟩) l n) l (cellsTo G l) ∧ Below w3.heap.size w3 wr ∧ g ≤ wr.heap.size) (fun _ i _ => n - (intOf i).toNat)
      case atStart => exact ⟨0, 0, by omega, .inl ⟨by omega, rfl⟩, rfl, rfl, HO, hb8, hg8⟩
      case round =>
        obtain ⟨k, l, hk, hkl, rfl, rfl, hown, hbr, hgr⟩ := hrel
        by_cases hkn : k < n
        · rcases hr.later hbr with h0 | ⟨b, off, hab, _, hcell⟩
          · omega
          cases hab
          have hcl := hcell k (by omega)
          clear hcell
          rcases Nat.lt_trichotomy k L with hlt | heq | hgt
          · obtain rfl : l = k := by omega
            have hne : ((l : Int) == (L : Int)) = false := beq_eq_false_iff_ne.2 (by omega)
            go_wp2_with (at_builtin; refine wpList_append_fits _ rfl (.tmp 129) (.tmp 134) 22 rfl g 9 i0 1 Try.underlying22 hi hz1 g l n _ rfl (hown.alloc _) ⟨wr.heap.size, 0, none⟩ 1 1 [.string (S l)] rfl rfl (cell_one_new _ _ _) (by intro u hu; simp at hu; subst hu; rfl) (by omega) ?_; intro w9 hown1 hgrow1)
            have R := grow_step hgB hbr hgr hgrow1
            rw [cellsTo_succ (G1.out l hlt)] at hown1
            go_roundw
            case rel => exact ⟨l + 1, l + 1, by omega, .inl ⟨by omega, rfl⟩, by go_num, rfl, hown1, R.1, R.2⟩
            case measure => simp [intOf]; omega
          · subst heq
            obtain rfl : l = k := by omega
            go_wp2
            go_roundw
            case rel => exact ⟨l + 1, l, by omega, .inr ⟨by omega, rfl⟩, by go_num, rfl, hown, hbr, hgr⟩
            case measure => simp [intOf]; omega
          · obtain rfl : k = l + 1 := by omega
            go_wp2_with (at_builtin; refine wpList_append_fits _ rfl (.tmp 129) (.tmp 134) 22 rfl g 9 i0 1 Try.underlying22 hi hz1 g l n _ rfl (hown.alloc _) ⟨wr.heap.size, 0, none⟩ 1 1 [.string (S (l + 1))] rfl rfl (cell_one_new _ _ _) (by intro u hu; simp at hu; subst hu; rfl) (by omega) ?_; intro w9 hown1 hgrow1)
            have R := grow_step hgB hbr hgr hgrow1
            rw [cellsTo_succ (G3.out l (by omega))] at hown1
            go_roundw
            case rel => exact ⟨l + 1 + 1, l + 1, by omega, .inr ⟨by omega, rfl⟩, by go_num, rfl, hown1, R.1, R.2⟩
            case measure => simp [intOf]; omega
        · obtain rfl : n = l + 1 := by omega
          have hrow := row_owned hown
          rw [Nat.add_sub_cancel] at HP
          clear HO hr
          go_wp2_with fail
          refine (profiles_any _ l (l + 1) G wr (by omega) hrow).mono ?_
          rintro e w11 ⟨rfl, hprof, hbel0⟩
          have hb11 : Below w3.heap.size w3 w11 := hbr.trans (hbel0.mono (by omega))
          clear hbel0 hbr hown hrow
          go_wp2_with fail
          refine (find_any _ l l G t w11 (by omega) hprof HP.out.1).mono ?_
          rintro e w12 ⟨rfl, rfl⟩
          rw [HP.out.2.1, HP.out.2.2]
          go_wp2
          go_ret
          exact ⟨rfl, hb11⟩
  · rw [show Pure.srt S n = false by simpa using hs]
    go_wp2
    go_ret
    exact ⟨rfl, below_drewN (Below.refl _ _) _⟩

end Go.Proofs.Qxb6608990a
