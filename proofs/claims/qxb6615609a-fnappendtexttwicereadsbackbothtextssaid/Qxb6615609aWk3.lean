/-
  THE WALKS (3): appendText, zzCloneBytes, zzBytes_...
-/
import Derived.Test.Qxb6615609aWk2
import Derived.Test.Qxb6615609aApp
import Derived.Deep.OwnRows
namespace Go.Proofs.Qxb6615609a
open Go.RowKit

/-- A string's bytes, as numbers. -/
def nums (s : ByteArray) : List Int := s.data.toList.map fun b => (b.toNat : Int)
theorem byteCells_nums (s : ByteArray) : byteCells s = cellsOf (nums s) := by simp [byteCells, cellsOf, nums]
theorem nums_length (s : ByteArray) : (nums s).length = s.size := by unfold nums; rw [List.length_map, Array.length_toList]; rfl

/-- What appendText lays behind. -/
def text (s : ByteArray) : List Int := uv s.size ++ nums s
theorem text_length (s : ByteArray) : (text s).length = (uv s.size).length + s.size := by simp [text, nums_length]

set_option maxHeartbeats 400000 in
theorem text_any (B n : Nat) (s : ByteArray) (v : Value) (zs : List Int) (w : World) (hs : s.size ≤ 1048576) (hown : w.ownsRow B 5 1 v n (cellsOf zs)) (hB : B ≤ w.heap.size) (hn : n ≤ 4194304) :
    Calls Try.prog 13 #[v, .string s] w fun e w' => ∃ g cap, e = .returned (.slice (some ⟨g, 0, none⟩) (n + (text s).length) cap) ∧ w'.ownsRow B 5 1 (.slice (some ⟨g, 0, none⟩) (n + (text s).length) cap) (n + (text s).length) (cellsOf (zs ++ text s)) ∧
      w.grownBy w' v.ownBlock ∧ (v.ownBlock = some g ∨ w.heap.size ≤ g) := by
  obtain ⟨i0, hi, hz0, hz1, hz2⟩ := info_parts Try.info5
  have hu := uv_len s.size
  go_enter Try.func13, Try.ntmps13
  go_wp2_with fail
  refine (uvarint_any B n s.size v zs w (by omega) hown hB hn).mono ?_
  rintro e w1 ⟨g1, c1, rfl, hown1, hgrow1, hat1⟩
  have z1 := hgrow1.size
  go_wp2_with (at_builtin; refine wpList_append_str _ rfl _ _ 28 9 rfl B 5 i0 (.int .u8 0) Try.underlying28 Try.underlying9 hi hz0 hz1 hz2 rfl g1 (n + (uv s.size).length) c1 _ s rfl rfl hown1 (by omega) (by omega) ?_; intro g2 c2 w2 hown2 hgrow2 hat2)
  go_ret
  have e1 : n + (uv s.size).length + s.size = n + (text s).length := by rw [text_length]; omega
  have e2 : cellsOf (zs ++ uv s.size) ++ byteCells s = cellsOf (zs ++ text s) := by rw [byteCells_nums]; simp [cellsOf, text]
  rw [e1, e2] at hown2
  refine ⟨g2, c2, by rw [← e1]; rfl, hown2, grow_chain hgrow1 hgrow2 hat1, ?_⟩
  rcases hat2 with h | h
  · cases h; exact hat1
  · right; omega

theorem zztext_any (B n : Nat) (s : ByteArray) (v : Value) (zs : List Int) (w : World) (hs : s.size ≤ 1048576) (hown : w.ownsRow B 5 1 v n (cellsOf zs)) (hB : B ≤ w.heap.size) (hn : n ≤ 4194304) :
    Calls Try.prog 11 #[v, .string s] w fun e w' => ∃ g cap, e = .returned (.slice (some ⟨g, 0, none⟩) (n + (text s).length) cap) ∧ w'.ownsRow B 5 1 (.slice (some ⟨g, 0, none⟩) (n + (text s).length) cap) (n + (text s).length) (cellsOf (zs ++ text s)) ∧
      w.grownBy w' v.ownBlock ∧ (v.ownBlock = some g ∨ w.heap.size ≤ g) := by
  go_enter Try.func11, Try.ntmps11
  go_wp2_with fail
  refine (text_any B n s v zs w hs hown hB hn).mono ?_
  rintro e w1 ⟨g1, c1, rfl, hown1, hgrow1, hat1⟩
  go_wp2
  go_ret
  exact ⟨g1, c1, rfl, hown1, hgrow1, hat1⟩

/-- The call hands back a bool. -/
def RetBool (e : Ending) : Prop := ∃ r : Bool, e = .returned (.bool r)

set_option maxHeartbeats 400000 in
theorem bytes_any (a0 : Option Addr) (n cap : Nat) (a b : ByteArray) (w : World) (hn : n ≤ maxLen) (ha : a.size ≤ maxLen) (hb : b.size ≤ maxLen) :
    Calls Try.prog 9 #[.slice a0 n cap, .string a, .string b] w fun e w' => RetBool e ∧ w' = w := by
  unfold maxLen at hn ha hb
  go_enter Try.func9, Try.ntmps9
  go_wp2
  all_goals (go_ret; exact ⟨⟨_, rfl⟩, rfl⟩)

end Go.Proofs.Qxb6615609a
