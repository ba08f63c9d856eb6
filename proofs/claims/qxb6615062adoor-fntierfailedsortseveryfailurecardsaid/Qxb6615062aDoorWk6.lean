/-
  THE WALKS (6): the law FnTierFailedSortsEveryFailure.
-/
import Derived.Test.Qxb6615062aDoorWk4
namespace Go.Proofs.Qxb6615062aDoor
open Go.RowKit Go.Extern.Stop Go.Stop Go.Extern

/-- The call hands back a bool of which p holds. -/
def RetBool (e : Ending) (p : Bool → Prop) : Prop := ∃ r : Bool, e = .returned (.bool r) ∧ p r

theorem bytes_any (a : Option Addr) (n cap : Nat) (w : World) (hn : n ≤ maxLen) :
    Calls Tryd.prog 5 #[.slice a n cap] w fun e w' => RetBool e (fun r => r = true → n ≤ 1048576) ∧ w' = w := by
  unfold maxLen at hn
  by_cases h1 : 1048576 < n
  · go_enter Tryd.func5, Tryd.ntmps5
    go_wp2
    go_ret
    exact ⟨⟨_, rfl, by simp⟩, rfl⟩
  · go_enter Tryd.func5, Tryd.ntmps5
    go_wp2
    go_ret
    exact ⟨⟨_, rfl, by omega⟩, rfl⟩

/-- A row of n bytes behind a slice's address. -/
def ByteRow (w : World) (a : Option Addr) (n : Nat) (Z : Nat → Int) : Prop :=
  n = 0 ∨ ∃ b off : Nat, a = some ⟨b, off, none⟩ ∧ b < w.heap.size ∧ ∀ i, i < n → w.cell? ⟨b, off + i, none⟩ = some (.int .u8 (Z i)) ∧ 0 ≤ Z i

theorem kinds (k : Int) : (k ≤ 1 ∧ (∀ x, nx k x = x) ∧ ∀ y, ny k y = IntKind.u64.wrap (y + 1)) ∨ (¬ k ≤ 1 ∧ (∀ x, nx k x = IntKind.u64.wrap (x + 1)) ∧ ∀ y, ny k y = y) := by
  by_cases h : k ≤ 1
  · exact .inl ⟨h, fun x => by simp [nx, h], fun y => by simp [ny, h]⟩
  · exact .inr ⟨h, fun x => by simp [nx, h], fun y => by simp [ny, h]⟩

set_option maxHeartbeats 1000000 in
theorem lawSorts (a : Option Addr) (n cap : Nat) (Z : Nat → Int) (s : Addr) (w : World) (hn : n ≤ maxLen) (hr : ByteRow w a n Z) (hs : Sent w s) :
    Calls Tryd.prog 3 #[.slice a n cap] w fun e w' => e = .returned (.bool true) ∧ Below w.heap.size w w' := by
  have hsl := hs.lt
  go_enter Tryd.func3, Tryd.ntmps3
  go_wp2_with fail
  refine (bytes_any a n cap w hn).mono ?_
  rintro e w1 ⟨⟨r, rfl, hr1⟩, rfl⟩
  cases r
  · go_wp2
    go_ret
    exact ⟨rfl, Below.refl _ _⟩
  have hn1 := hr1 rfl
  clear hr1 hn
  by_cases hn2 : 65536 < n
  · go_wp2
    go_ret
    exact ⟨rfl, Below.refl _ _⟩
  go_wp2_with fail
  refine (new_any 0 0 w1).mono ?_
  rintro e w2 ⟨rfl, hc2, hb2, hz2⟩
  have hs2 := hs.kept (grown_below none hb2) (by simp) (by simp)
  have n0 : some 0 ≠ some w1.heap.size := fun e => by simp at e; omega
  have ns : some s.block ≠ some w1.heap.size := fun e => by simp at e; omega
  have N0 : Hid (some 0 ≠ some w1.heap.size) := n0
  have NS : Hid (some s.block ≠ some w1.heap.size) := ns
  clear n0 ns
  go_wp2
  go_loopw [4, 5, 6] (fun x y i wr => ∃ (k : Nat) (X Y : Int), k ≤ n ∧ i = .int .i64 k ∧ x = .int .u64 X ∧ y = .int .u64 Y ∧ Ctr wr w1.heap.size X Y ∧ Sent wr s ∧ Below w1.heap.size w1 wr ∧ w1.heap.size < wr.heap.size) (fun _ _ i _ => n - (intOf i).toNat)
  case atStart => exact ⟨0, 0, 0, by omega, rfl, rfl, rfl, hc2, hs2, hb2, by omega⟩
  case round =>
    obtain ⟨k, X, Y, hk, rfl, rfl, rfl, hc, hsr, hb, hz⟩ := hrel
    by_cases hlt : k < n
    · rcases hr with h0 | ⟨b, off, rfl, hbl, hcell⟩
      · omega
      have hcl : wr.cell? ⟨b, off + k, none⟩ = some (.int .u8 (Z k)) := (hb.cell (p := ⟨b, off + k, none⟩) hbl).trans (hcell k hlt).1
      have hz0 := (hcell k hlt).2
      clear hcell
      rcases kinds (Z k) with ⟨h1, e1, f1⟩ | ⟨h1, e1, f1⟩
      all_goals
        go_wp2_with fail
        refine (fail_any w1.heap.size (Z k) X Y s wr hz0 hsr hc).mono ?_
        rintro e w3 ⟨rfl, hc3, hg3⟩
        have hs3 := hsr.kept hg3 N0.out NS.out
        have hb3 : Below w1.heap.size w1 w3 := hb.grown hg3 (by omega) (fun k hk => by cases hk; exact Nat.le_refl _)
        have hz3 : w1.heap.size < w3.heap.size := by have := hg3.size; omega
        rw [e1, f1] at hc3
        clear e1 f1 hg3 hc hsr hb hcl
        go_wp2
        go_roundw
        case rel => exact ⟨k + 1, _, _, by omega, by go_num, rfl, rfl, hc3, hs3, hb3, hz3⟩
        case measure => simp [intOf]; omega
    · go_wp2_with fail
      refine (counts_any w1.heap.size _ _ wr hc).mono ?_
      rintro e w4 ⟨rfl, m, rfl⟩
      go_wp2
      go_ret
      exact ⟨rfl, below_drewN hb _⟩

end Go.Proofs.Qxb6615062aDoor
