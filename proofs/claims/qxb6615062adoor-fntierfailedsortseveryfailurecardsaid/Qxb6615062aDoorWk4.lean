/-
  THE WALKS (4): tierFailed and what tells it of a failure; zzFailKind.
-/
import Derived.Test.Qxb6615062aDoorWk3
import Derived.Deep.OwnRows
namespace Go.Proofs.Qxb6615062aDoor
open Go.RowKit Go.Extern.Stop Go.Stop Go.Extern

/-- THE SENTINEL: the variable holds a pointer to s; s's row is frozen nowhere. -/
def Sent (w : World) (s : Addr) : Prop :=
  w.cell? ⟨0, 0, none⟩ = some (.iface 64 (.pointer (some s))) ∧ ∃ c t, w.heap[s.block]? = some (.cells c t (0, 0))

theorem tier_yes (p : Nat) (x y : Int) (t : TypeId) (v : Value) (s : Addr) (w : World) (hs : w.cell? ⟨0, 0, none⟩ = some (.iface 64 (.pointer (some s)))) (hc : Ctr w p x y)
    (h22 : Calls Tryd.prog 22 #[.iface t v, .iface 64 (.pointer (some s)), .bool true] w fun e w' => e = .returned (.bool true) ∧ w' = w) :
    Calls Tryd.prog 15 #[.pointer (some ⟨p, 0, none⟩), .iface t v] w fun e w' => e = .returned (.tuple #[]) ∧ w' = w.setCell ⟨p, 15, none⟩ (.int .u64 (IntKind.u64.wrap (y + 1))) := by
  obtain ⟨c1, c2, c3, f1, f2⟩ := hc
  have H : Hid (Calls Tryd.prog 19 #[.iface t v, .iface 64 (.pointer (some s))] w fun e w' => e = .returned (.bool true) ∧ w' = w) := is_of v t s true w h22
  clear h22
  go_enter Tryd.func15, Tryd.ntmps15
  go_wp2_with (first | (go_at_call 19; refine H.out.mono ?_; rintro e w' ⟨rfl, rfl⟩) | (go_at_call 20; refine (add_any p 15 y _ c2 f2).mono ?_; rintro e w' ⟨rfl, rfl⟩))
  go_end0
  exact ⟨rfl, rfl⟩

theorem tier_no (p : Nat) (x y : Int) (t : TypeId) (v : Value) (s : Addr) (w : World) (hs : w.cell? ⟨0, 0, none⟩ = some (.iface 64 (.pointer (some s)))) (hc : Ctr w p x y)
    (h22 : Calls Tryd.prog 22 #[.iface t v, .iface 64 (.pointer (some s)), .bool true] w fun e w' => e = .returned (.bool false) ∧ w' = w) :
    Calls Tryd.prog 15 #[.pointer (some ⟨p, 0, none⟩), .iface t v] w fun e w' => e = .returned (.tuple #[]) ∧ w' = w.setCell ⟨p, 14, none⟩ (.int .u64 (IntKind.u64.wrap (x + 1))) := by
  obtain ⟨c1, c2, c3, f1, f2⟩ := hc
  have H : Hid (Calls Tryd.prog 19 #[.iface t v, .iface 64 (.pointer (some s))] w fun e w' => e = .returned (.bool false) ∧ w' = w) := is_of v t s false w h22
  clear h22
  go_enter Tryd.func15, Tryd.ntmps15
  go_wp2_with (first | (go_at_call 19; refine H.out.mono ?_; rintro e w' ⟨rfl, rfl⟩) | (go_at_call 20; refine (add_any p 14 x _ c1 f1).mono ?_; rintro e w' ⟨rfl, rfl⟩))
  go_end0
  exact ⟨rfl, rfl⟩

theorem Ctr.put_y {w : World} {p : Nat} {x y : Int} (h : Ctr w p x y) (z : Int) : Ctr (w.setCell ⟨p, 15, none⟩ (.int .u64 z)) p x z := by
  obtain ⟨c1, c2, c3, f1, f2⟩ := h
  exact ⟨(World.cell?_setCell_other _ _ _ _ (by simp)).trans c1, World.cell?_setCell_same _ _ _ c2, (World.cell?_setCell_other _ _ _ _ (by simp)).trans c3, by rw [World.frozen?_setCell]; exact f1, by rw [World.frozen?_setCell]; exact f2⟩
theorem Ctr.put_x {w : World} {p : Nat} {x y : Int} (h : Ctr w p x y) (z : Int) : Ctr (w.setCell ⟨p, 14, none⟩ (.int .u64 z)) p z y := by
  obtain ⟨c1, c2, c3, f1, f2⟩ := h
  exact ⟨World.cell?_setCell_same _ _ _ c1, (World.cell?_setCell_other _ _ _ _ (by simp)).trans c2, (World.cell?_setCell_other _ _ _ _ (by simp)).trans c3, by rw [World.frozen?_setCell]; exact f1, by rw [World.frozen?_setCell]; exact f2⟩
theorem Ctr.lt {w : World} {p : Nat} {x y : Int} (h : Ctr w p x y) : p < w.heap.size := World.block_lt_of_cell? w _ h.1
theorem Ctr.kept {w w' : World} {p : Nat} {x y : Int} {row : Option Nat} (h : Ctr w p x y) (hg : w.grownBy w' row) (hne : some p ≠ row) : Ctr w' p x y := by
  have hb := hg.block p h.lt hne
  obtain ⟨c1, c2, c3, f1, f2⟩ := h
  exact ⟨(World.cell?_of_block hb).trans c1, (World.cell?_of_block hb).trans c2, (World.cell?_of_block hb).trans c3, (World.frozen?_of_block hb).trans f1, (World.frozen?_of_block hb).trans f2⟩
theorem Sent.lt {w : World} {s : Addr} (h : Sent w s) : 0 < w.heap.size ∧ s.block < w.heap.size := by
  obtain ⟨h1, c, t, h2⟩ := h
  obtain ⟨hlt, _⟩ := Array.getElem?_eq_some_iff.1 h2
  exact ⟨World.block_lt_of_cell? w _ h1, hlt⟩
theorem Sent.kept {w w' : World} {s : Addr} {row : Option Nat} (h : Sent w s) (hg : w.grownBy w' row) (h0 : some 0 ≠ row) (hs : some s.block ≠ row) : Sent w' s := by
  have hl := h.lt
  obtain ⟨h1, c, t, h2⟩ := h
  exact ⟨hg.cell h1 h0, c, t, (hg.block _ hl.2 hs).trans h2⟩
theorem grown_set (w : World) (p o : Nat) (v : Value) : w.grownBy (w.setCell ⟨p, o, none⟩ v) (some p) :=
  ⟨rfl, rfl, rfl, by simp, fun k _ hk => Deep.blk_setCell_other _ _ _ _ (fun e => hk (by rw [e]))⟩
theorem grown_trans {a b c : World} {row : Option Nat} (h : a.grownBy b row) (k : b.grownBy c row) : a.grownBy c row :=
  ⟨k.os.trans h.os, k.tape.trans h.tape, k.output.trans h.output, Nat.le_trans h.size k.size, fun i hi hr => (k.block i (Nat.lt_of_lt_of_le hi h.size) hr).trans (h.block i hi hr)⟩
theorem grown_below {a b : World} (row : Option Nat) (h : Below a.heap.size a b) : a.grownBy b row :=
  ⟨h.os, h.tape, h.output, h.size, fun i hi _ => h.block i hi⟩

/-- WHAT ONE FAILURE OF KIND k DOES TO THE COUNTS. -/
def nx (k x : Int) : Int := if k ≤ 1 then x else IntKind.u64.wrap (x + 1)
def ny (k y : Int) : Int := if k ≤ 1 then IntKind.u64.wrap (y + 1) else y

theorem silent_any (p : Nat) (x y : Int) (s : Addr) (w : World) (hs : Sent w s) (hc : Ctr w p x y) :
    Calls Tryd.prog 10 #[.pointer (some ⟨p, 0, none⟩)] w fun e w' => e = .returned (.tuple #[]) ∧ Ctr w' p x (IntKind.u64.wrap (y + 1)) ∧ w.grownBy w' (some p) := by
  have h0 := hs.1
  go_enter Tryd.func10, Tryd.ntmps10
  go_wp2_with (go_at_call 15; refine (tier_yes p x y _ _ s _ h0 hc (is22_same s _)).mono ?_; rintro e w' ⟨rfl, rfl⟩)
  go_end0
  exact ⟨rfl, hc.put_y _, grown_set _ _ _ _⟩

theorem other_any (p : Nat) (x y : Int) (s : Addr) (w : World) (hs : Sent w s) (hc : Ctr w p x y) :
    Calls Tryd.prog 12 #[.pointer (some ⟨p, 0, none⟩)] w fun e w' => e = .returned (.tuple #[]) ∧ Ctr w' p (IntKind.u64.wrap (x + 1)) y ∧ w.grownBy w' (some p) := by
  go_enter Tryd.func12, Tryd.ntmps12
  go_wp2_with fail
  refine (new17_any _ _).mono ?_
  rintro e w' ⟨rfl, rfl⟩
  have hb : Below w.heap.size w (w.alloc (.cells #[.string { data := #[122, 122, 58, 32, 116, 104, 101, 32, 102, 108, 101, 101, 116, 32, 116, 105, 101, 114, 32, 114, 101, 102, 117, 115, 101, 100] }] 66)) := (Below.refl _ _).alloc (Nat.le_refl _) _
  have hg := grown_below (some p) hb
  have hc' := hc.kept (grown_below none hb) (by simp)
  have hs' := hs.kept (grown_below none hb) (by simp) (by simp)
  have hsl := hs.lt
  obtain ⟨cs, ts, hsb⟩ := hs'.2
  have hnew := heap_alloc_new w (.cells #[.string { data := #[122, 122, 58, 32, 116, 104, 101, 32, 102, 108, 101, 101, 116, 32, 116, 105, 101, 114, 32, 114, 101, 102, 117, 115, 101, 100] }] 66)
  have h22 := is22_other ⟨w.heap.size, 0, none⟩ s _ _ _ _ _ (fun e => by rw [← e] at hsl; simp at hsl) hnew hsb
  have HT := tier_no p x y _ _ s _ hs'.1 hc' h22
  go_wp2_with fail
  refine HT.mono ?_
  rintro e w' ⟨rfl, rfl⟩
  go_wp2
  go_end0
  exact ⟨rfl, hc'.put_x _, grown_trans hg (grown_set _ _ _ _)⟩

theorem wrapped_any (p : Nat) (x y : Int) (s : Addr) (w : World) (hs : Sent w s) (hc : Ctr w p x y) :
    Calls Tryd.prog 11 #[.pointer (some ⟨p, 0, none⟩)] w fun e w' => e = .returned (.tuple #[]) ∧ Ctr w' p x (IntKind.u64.wrap (y + 1)) ∧ w.grownBy w' (some p) := by
  have h0 := hs.1
  go_enter Tryd.func11, Tryd.ntmps11
  go_wp2_with fail
  have hb : Below w.heap.size w (w.alloc (.cells #[.iface 64 (.pointer (some s))] 54)) := (Below.refl _ _).alloc (Nat.le_refl _) _
  refine (join_any w.heap.size 1 s _ (by simp) (by simp)).mono ?_
  rintro e w' ⟨q, g, c', rfl, hq, hgc, hbel⟩
  have hb' : Below w.heap.size w w' := hb.trans (hbel.mono (by simp))
  clear hbel hb h0
  have hc' := hc.kept (grown_below none hb') (by simp)
  have hs' := hs.kept (grown_below none hb') (by simp) (by simp)
  have hg := grown_below (some p) hb'
  have HT := tier_yes p x y _ _ s _ hs'.1 hc' (is22_join q g c' s w' hq hgc)
  go_wp2_with fail
  refine HT.mono ?_
  rintro e w2 ⟨rfl, rfl⟩
  go_wp2
  go_end0
  exact ⟨rfl, hc'.put_y _, grown_trans hg (grown_set _ _ _ _)⟩

theorem fail_any (p : Nat) (k x y : Int) (s : Addr) (w : World) (hk : 0 ≤ k) (hs : Sent w s) (hc : Ctr w p x y) :
    Calls Tryd.prog 7 #[.pointer (some ⟨p, 0, none⟩), .int .u8 k] w fun e w' => e = .returned (.tuple #[]) ∧ Ctr w' p (nx k x) (ny k y) ∧ w.grownBy w' (some p) := by
  by_cases h0 : k = 0
  · subst h0
    go_enter Tryd.func7, Tryd.ntmps7
    go_wp2_with (go_at_call 10; refine (silent_any p x y s _ hs hc).mono ?_; rintro e w' ⟨rfl, h1, h2⟩)
    refine bodyPost_ret (results_none rfl _ _ _) rfl ?_
    exact ⟨rfl, h1, h2⟩
  · by_cases h1 : k = 1
    · subst h1
      go_enter Tryd.func7, Tryd.ntmps7
      go_wp2_with (go_at_call 11; refine (wrapped_any p x y s _ hs hc).mono ?_; rintro e w' ⟨rfl, h1, h2⟩)
      refine bodyPost_ret (results_none rfl _ _ _) rfl ?_
      exact ⟨rfl, h1, h2⟩
    · have h2 : 2 ≤ k := by omega
      have e1 : nx k x = IntKind.u64.wrap (x + 1) := by unfold nx; rw [if_neg (by omega)]
      have e2 : ny k y = y := by unfold ny; rw [if_neg (by omega)]
      rw [e1, e2]
      clear e1 e2
      go_enter Tryd.func7, Tryd.ntmps7
      go_wp2_with (go_at_call 12; refine (other_any p x y s _ hs hc).mono ?_; rintro e w' ⟨rfl, h1, h2⟩)
      go_end0
      exact ⟨rfl, h1, h2⟩

end Go.Proofs.Qxb6615062aDoor
