/-
  THE WALKS (5): the law FnTierFailedCountsAddUpInAnyOrder.
-/
import Derived.Test.Qxb6615062aDoorWk4
namespace Go.Proofs.Qxb6615062aDoor
open Go.RowKit Go.Extern.Stop Go.Stop Go.Extern

theorem kinds (k : Int) : (k ≤ 1 ∧ (∀ x, nx k x = x) ∧ ∀ y, ny k y = IntKind.u64.wrap (y + 1)) ∨ (¬ k ≤ 1 ∧ (∀ x, nx k x = IntKind.u64.wrap (x + 1)) ∧ ∀ y, ny k y = y) := by
  by_cases h : k ≤ 1
  · exact .inl ⟨h, fun x => by simp [nx, h], fun y => by simp [ny, h]⟩
  · exact .inr ⟨h, fun x => by simp [nx, h], fun y => by simp [ny, h]⟩

set_option maxHeartbeats 2000000 in
theorem lawCounts (a b k1 k2 : Int) (s : Addr) (w : World) (hk1 : 0 ≤ k1) (hk2 : 0 ≤ k2) (hs : Sent w s) :
    Calls Tryd.prog 4 #[.int .u64 a, .int .u64 b, .int .u8 k1, .int .u8 k2] w fun e w' => e = .returned (.bool true) ∧ Below w.heap.size w w' := by
  have hsl := hs.lt
  rcases kinds k1 with ⟨h1, e1, f1⟩ | ⟨h1, e1, f1⟩ <;> rcases kinds k2 with ⟨h2, e2, f2⟩ | ⟨h2, e2, f2⟩
  all_goals
    go_enter Tryd.func4, Tryd.ntmps4
    go_wp2_with fail
    refine (new_any a b w).mono ?_
    rintro e w1 ⟨rfl, hc1, hb1, hz1⟩
    have hs1 := hs.kept (grown_below none hb1) (by simp) (by simp)
    have n0 : some 0 ≠ some w.heap.size := fun e => by simp at e; omega
    have ns : some s.block ≠ some w.heap.size := fun e => by simp at e; omega
    go_wp2_with fail
    refine (fail_any w.heap.size k1 a b s w1 hk1 hs1 hc1).mono ?_
    rintro e w2 ⟨rfl, hc2, hg2⟩
    have hs2 := hs1.kept hg2 n0 ns
    go_wp2_with fail
    refine (fail_any w.heap.size k2 _ _ s w2 hk2 hs2 hc2).mono ?_
    rintro e w3 ⟨rfl, hc3, hg3⟩
    have hs3 := hs2.kept hg3 n0 ns
    have hb3 : Below w.heap.size w w3 := (hb1.grown hg2 (by omega) (fun k hk => by cases hk; exact Nat.le_refl _)).grown hg3 (by have := hg2.size; omega) (fun k hk => by cases hk; exact Nat.le_refl _)
    have hz3 : w.heap.size < w3.heap.size := by have := hg2.size; have := hg3.size; omega
    clear hs1 hs2 hc1 hc2 hg2 hg3 hb1 hz1
    go_wp2_with fail
    refine (new_any a b w3).mono ?_
    rintro e w4 ⟨rfl, hd4, hb4, hz4⟩
    have hs4 := hs3.kept (grown_below none hb4) (by simp) (by simp)
    have hc4 := hc3.kept (grown_below none hb4) (by simp)
    have m0 : some 0 ≠ some w3.heap.size := fun e => by simp at e; omega
    have ms : some s.block ≠ some w3.heap.size := fun e => by simp at e; omega
    have mp : some w.heap.size ≠ some w3.heap.size := fun e => by simp at e; omega
    go_wp2_with fail
    refine (fail_any w3.heap.size k2 a b s w4 hk2 hs4 hd4).mono ?_
    rintro e w5 ⟨rfl, hd5, hg5⟩
    have hs5 := hs4.kept hg5 m0 ms
    have hc5 := hc4.kept hg5 mp
    go_wp2_with fail
    refine (fail_any w3.heap.size k1 _ _ s w5 hk1 hs5 hd5).mono ?_
    rintro e w6 ⟨rfl, hd6, hg6⟩
    have hc6 := hc5.kept hg6 mp
    have hb6 : Below w.heap.size w w6 := ((hb3.trans (hb4.mono (by omega))).grown hg5 (by omega) (fun k hk => by cases hk; omega)).grown hg6 (by have := hg5.size; omega) (fun k hk => by cases hk; omega)
    rw [e1, e2, f1, f2] at hc6 hd6
    clear hs3 hs4 hs5 hc3 hc4 hc5 hd4 hd5 hg5 hg6 hb3 hb4 hz4 n0 ns m0 ms mp e1 e2 f1 f2
    go_wp2_with fail
    refine (counts_any w.heap.size _ _ w6 hc6).mono ?_
    rintro e w7 ⟨rfl, n1, rfl⟩
    go_wp2_with fail
    refine (counts_any w3.heap.size _ _ (w6.drewN n1) hd6).mono ?_
    rintro e w8 ⟨rfl, n2, rfl⟩
    go_wp2
    go_ret
    exact ⟨rfl, below_drewN hb6 _⟩

end Go.Proofs.Qxb6615062aDoor
