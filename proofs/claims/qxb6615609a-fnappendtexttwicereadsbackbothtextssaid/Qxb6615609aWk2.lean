/-
  THE WALKS (2): encoding/binary.AppendUvarint onto a slice of the call's own.
-/
import Derived.Test.Qxb6615609aWk1
import Derived.Deep.AppendLies
import Derived.Deep.AppendSrc
import Derived.Maps.AppendAt
namespace Go.Proofs.Qxb6615609a
open Go.RowKit

theorem Try.info5 : (Try.prog.info? 5).map (fun i => (i.zero, i.size, i.bytes)) = some (some (.int .u8 0), 1, 1) := by kernel_rfl

theorem grow_alloc (w : World) (o : Obj) (row : Option Nat) : w.grownBy (w.alloc o) row :=
  ⟨rfl, rfl, rfl, by simp, fun k hk _ => heap_alloc_old w o hk⟩
theorem grow_chain {w w1 w2 : World} {row : Option Nat} {g1 : Nat} (h1 : w.grownBy w1 row) (h2 : w1.grownBy w2 (some g1)) (hg : row = some g1 ∨ w.heap.size ≤ g1) : w.grownBy w2 row :=
  ⟨h2.os.trans h1.os, h2.tape.trans h1.tape, h2.output.trans h1.output, Nat.le_trans h1.size h2.size, fun i hi hr =>
    (h2.block i (Nat.lt_of_lt_of_le hi h1.size) (fun e => by
      rcases hg with hg | hg
      · exact hr (e.trans hg.symm)
      · cases e; omega)).trans (h1.block i hi hr)⟩

set_option maxHeartbeats 400000 in
set_option maxRecDepth 100000 in
theorem append1 (B n : Nat) (x : Int) (v : Value) (xs : List Value) (w : World) (p : 0 ≤ x) (q : x < 128) (hown : w.ownsRow B 5 1 v n xs) (hB : B ≤ w.heap.size) (hn : n ≤ 4194304) :
    Calls Try.prog 15 #[v, .int .u64 x] w fun e w' => ∃ g cap, e = .returned (.slice (some ⟨g, 0, none⟩) (n + 1) cap) ∧ w'.ownsRow B 5 1 (.slice (some ⟨g, 0, none⟩) (n + 1) cap) (n + 1) (xs ++ [.int .u8 x]) ∧
      w.grownBy w' v.ownBlock ∧ (v.ownBlock = some g ∨ w.heap.size ≤ g) := by
  obtain ⟨i0, hi, hz0, hz1, hz2⟩ := info_parts Try.info5
  go_enter Try.func15, Try.ntmps15
  go_wp2
  refine wp_loop_rounds 1 ?_
  rw [rounds_succ]
  go_wp2_with (at_builtin; refine wpList_append_lies _ rfl _ _ 28 rfl B 5 i0 (.int .u8 0) 1 1 Try.underlying28 hi hz0 hz1 hz2 rfl (by decide) v n xs rfl (hown.alloc _) ⟨w.heap.size, 0, none⟩ 1 1 [.int .u8 x] rfl rfl (cell_one_new _ _ _) (by intro u hu; simp at hu; subst hu; rfl) (by omega) (by unfold maxLen; omega) (by omega) (by simp; omega) (w.heap.size + 1) (by simp) ?_; intro g cap w1 hown1 hgrow1 hat1 hlt1)
  go_ret
  exact ⟨g, cap, rfl, hown1, (grow_alloc w _ _).trans hgrow1, Or.elim hat1 Or.inl (fun h => Or.inr (by omega))⟩

set_option maxHeartbeats 400000 in
set_option maxRecDepth 100000 in
theorem append2 (B n : Nat) (x : Int) (v : Value) (xs : List Value) (w : World) (p : 128 ≤ x) (q : x < 16384) (hown : w.ownsRow B 5 1 v n xs) (hB : B ≤ w.heap.size) (hn : n ≤ 4194304) :
    Calls Try.prog 15 #[v, .int .u64 x] w fun e w' => ∃ g cap, e = .returned (.slice (some ⟨g, 0, none⟩) (n + 2) cap) ∧ w'.ownsRow B 5 1 (.slice (some ⟨g, 0, none⟩) (n + 2) cap) (n + 2) (xs ++ [.int .u8 (x % 128 + 128), .int .u8 (x / 128)]) ∧
      w.grownBy w' v.ownBlock ∧ (v.ownBlock = some g ∨ w.heap.size ≤ g) := by
  obtain ⟨i0, hi, hz0, hz1, hz2⟩ := info_parts Try.info5
  have ol := or_low x
  go_enter Try.func15, Try.ntmps15
  go_wp2
  refine wp_loop_rounds 2 ?_
  rw [rounds_succ]
  go_wp2_with (at_builtin; refine wpList_append_lies _ rfl _ _ 28 rfl B 5 i0 (.int .u8 0) 1 1 Try.underlying28 hi hz0 hz1 hz2 rfl (by decide) v n xs rfl (hown.alloc _) ⟨w.heap.size, 0, none⟩ 1 1 [.int .u8 (x % 128 + 128)] rfl rfl (cell_one_new _ _ _) (by intro u hu; simp at hu; subst hu; rfl) (by omega) (by unfold maxLen; omega) (by omega) (by simp; omega) (w.heap.size + 1) (by simp) ?_; intro g1 c1 w1 hown1 hgrow1 hat1 hlt1)
  have z1 := hgrow1.size
  simp at z1
  rw [rounds_succ]
  go_wp2_with (at_builtin; refine wpList_append_lies _ rfl _ _ 28 rfl B 5 i0 (.int .u8 0) 1 1 Try.underlying28 hi hz0 hz1 hz2 rfl (by decide) (.slice (some ⟨g1, 0, none⟩) (n + 1) c1) (n + 1) _ rfl (hown1.alloc _) ⟨w1.heap.size, 0, none⟩ 1 1 [.int .u8 (x / 128)] rfl rfl (cell_one_new _ _ _) (by intro u hu; simp at hu; subst hu; rfl) (by omega) (by unfold maxLen; omega) (by omega) (by simp; omega) (w1.heap.size + 1) (by simp) ?_; intro g2 c2 w2 hown2 hgrow2 hat2 hlt2)
  go_ret
  rw [List.append_assoc] at hown2
  have G1 : w.grownBy w1 v.ownBlock := (grow_alloc w _ _).trans hgrow1
  have K1 : v.ownBlock = some g1 ∨ w.heap.size ≤ g1 := Or.elim hat1 Or.inl (fun h => Or.inr (by omega))
  have G2 : w.grownBy w2 v.ownBlock := grow_chain G1 ((grow_alloc w1 _ _).trans hgrow2) K1
  refine ⟨g2, c2, rfl, hown2, G2, ?_⟩
  rcases hat2 with h | h
  · cases h; exact K1
  · right; omega

set_option maxHeartbeats 400000 in
set_option maxRecDepth 100000 in
theorem append3 (B n : Nat) (x : Int) (v : Value) (xs : List Value) (w : World) (p : 16384 ≤ x) (q : x < 2097152) (hown : w.ownsRow B 5 1 v n xs) (hB : B ≤ w.heap.size) (hn : n ≤ 4194304) :
    Calls Try.prog 15 #[v, .int .u64 x] w fun e w' => ∃ g cap, e = .returned (.slice (some ⟨g, 0, none⟩) (n + 3) cap) ∧ w'.ownsRow B 5 1 (.slice (some ⟨g, 0, none⟩) (n + 3) cap) (n + 3) (xs ++ [.int .u8 (x % 128 + 128), .int .u8 (x / 128 % 128 + 128), .int .u8 (x / 128 / 128)]) ∧
      w.grownBy w' v.ownBlock ∧ (v.ownBlock = some g ∨ w.heap.size ≤ g) := by
  obtain ⟨i0, hi, hz0, hz1, hz2⟩ := info_parts Try.info5
  have ol := or_low x
  have ol2 := or_low (x / 128)
  go_enter Try.func15, Try.ntmps15
  go_wp2
  refine wp_loop_rounds 3 ?_
  rw [rounds_succ]
  go_wp2_with (at_builtin; refine wpList_append_lies _ rfl _ _ 28 rfl B 5 i0 (.int .u8 0) 1 1 Try.underlying28 hi hz0 hz1 hz2 rfl (by decide) v n xs rfl (hown.alloc _) ⟨w.heap.size, 0, none⟩ 1 1 [.int .u8 (x % 128 + 128)] rfl rfl (cell_one_new _ _ _) (by intro u hu; simp at hu; subst hu; rfl) (by omega) (by unfold maxLen; omega) (by omega) (by simp; omega) (w.heap.size + 1) (by simp) ?_; intro g1 c1 w1 hown1 hgrow1 hat1 hlt1)
  have z1 := hgrow1.size
  simp at z1
  rw [rounds_succ]
  go_wp2_with (at_builtin; refine wpList_append_lies _ rfl _ _ 28 rfl B 5 i0 (.int .u8 0) 1 1 Try.underlying28 hi hz0 hz1 hz2 rfl (by decide) (.slice (some ⟨g1, 0, none⟩) (n + 1) c1) (n + 1) _ rfl (hown1.alloc _) ⟨w1.heap.size, 0, none⟩ 1 1 [.int .u8 (x / 128 % 128 + 128)] rfl rfl (cell_one_new _ _ _) (by intro u hu; simp at hu; subst hu; rfl) (by omega) (by unfold maxLen; omega) (by omega) (by simp; omega) (w1.heap.size + 1) (by simp) ?_; intro g2 c2 w2 hown2 hgrow2 hat2 hlt2)
  have z2 := hgrow2.size
  simp at z2
  rw [rounds_succ]
  go_wp2_with (at_builtin; refine wpList_append_lies _ rfl _ _ 28 rfl B 5 i0 (.int .u8 0) 1 1 Try.underlying28 hi hz0 hz1 hz2 rfl (by decide) (.slice (some ⟨g2, 0, none⟩) (n + 1 + 1) c2) (n + 1 + 1) _ rfl (hown2.alloc _) ⟨w2.heap.size, 0, none⟩ 1 1 [.int .u8 (x / 128 / 128)] rfl rfl (cell_one_new _ _ _) (by intro u hu; simp at hu; subst hu; rfl) (by omega) (by unfold maxLen; omega) (by omega) (by simp; omega) (w2.heap.size + 1) (by simp) ?_; intro g3 c3 w3 hown3 hgrow3 hat3 hlt3)
  go_ret
  rw [List.append_assoc, List.append_assoc] at hown3
  have G1 : w.grownBy w1 v.ownBlock := (grow_alloc w _ _).trans hgrow1
  have K1 : v.ownBlock = some g1 ∨ w.heap.size ≤ g1 := Or.elim hat1 Or.inl (fun h => Or.inr (by omega))
  have G2 : w.grownBy w2 v.ownBlock := grow_chain G1 ((grow_alloc w1 _ _).trans hgrow2) K1
  have K2 : v.ownBlock = some g2 ∨ w.heap.size ≤ g2 := by
    rcases hat2 with h | h
    · cases h; exact K1
    · right; omega
  have G3 : w.grownBy w3 v.ownBlock := grow_chain G2 ((grow_alloc w2 _ _).trans hgrow3) K2
  refine ⟨g3, c3, rfl, hown3, G3, ?_⟩
  rcases hat3 with h | h
  · cases h; exact K2
  · right; omega

/-- The cells of a list of bytes. -/
def cellsOf (zs : List Int) : List Value := zs.map (.int .u8)

theorem uvarint_any (B n x : Nat) (v : Value) (zs : List Int) (w : World) (hx : x < 2097152) (hown : w.ownsRow B 5 1 v n (cellsOf zs)) (hB : B ≤ w.heap.size) (hn : n ≤ 4194304) :
    Calls Try.prog 15 #[v, .int .u64 x] w fun e w' => ∃ g cap, e = .returned (.slice (some ⟨g, 0, none⟩) (n + (uv x).length) cap) ∧ w'.ownsRow B 5 1 (.slice (some ⟨g, 0, none⟩) (n + (uv x).length) cap) (n + (uv x).length) (cellsOf (zs ++ uv x)) ∧
      w.grownBy w' v.ownBlock ∧ (v.ownBlock = some g ∨ w.heap.size ≤ g) := by
  have ec : cellsOf (zs ++ uv x) = cellsOf zs ++ cellsOf (uv x) := by simp [cellsOf]
  rw [ec]
  by_cases h : x < 128
  · rw [uv1 h]
    exact append1 B n x v _ w (by omega) (by omega) hown hB hn
  · by_cases g : x < 16384
    · rw [uv2 h g]
      have := append2 B n x v _ w (by omega) (by omega) hown hB hn
      simpa [cellsOf] using this
    · rw [uv3 g]
      have := append3 B n x v _ w (by omega) (by omega) hown hB hn
      rw [show (x : Int) / 128 / 128 = ((x / 16384 : Nat) : Int) by omega] at this
      simpa [cellsOf] using this

end Go.Proofs.Qxb6615609a
