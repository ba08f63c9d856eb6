/-
  THE PLAIN LAW of the two Find statements: no Go in sight. Rows of strings as functions 'Nat → ByteArray' with a length.
-/
import Derived.Lib.Bytealg
import Derived.Lib.Strings
namespace Go.Proofs.Qxb6608990a.Pure
open Go

/-- Go's '<' on strings, as the walk spells it. -/
def lt (a b : ByteArray) : Bool := Op.bytesLess a.toList b.toList
/-- Go's '==' on strings. -/
def eq (a b : ByteArray) : Bool := a.toList == b.toList

theorem less_eq : ∀ (x y : List UInt8), Op.bytesLess x y = decide (x < y)
  | [], [] => by simp [Op.bytesLess]
  | _ :: _, [] => by simp [Op.bytesLess]
  | [], _ :: _ => by simp [Op.bytesLess]
  | a :: x, b :: y => by
    rw [Op.bytesLess, less_eq x y]
    simp only [List.cons_lt_cons_iff]
    by_cases h1 : a < b <;> by_cases h2 : a = b <;> by_cases h3 : x < y <;> simp [h1, h2, h3]

theorem cmp_lt : ∀ (x y : List UInt8), decide (Lib.compareBytes x y < 0) = Op.bytesLess x y
  | [], [] => by decide
  | _ :: _, [] => by simp [Op.bytesLess, Lib.compareBytes]
  | [], _ :: _ => by simp [Op.bytesLess, Lib.compareBytes]
  | a :: x, b :: y => by
    have ih := cmp_lt x y
    rw [Op.bytesLess, Lib.compareBytes, ← ih]
    by_cases h1 : a < b
    · simp [h1]
    · by_cases h2 : b < a
      · have : a ≠ b := fun h => by subst h; exact UInt8.lt_irrefl _ h2
        simp [h1, h2, this]
      · have : a = b := UInt8.le_antisymm (UInt8.not_lt.1 h2) (UInt8.not_lt.1 h1)
        simp [this, UInt8.lt_irrefl]

theorem cmp_zero : ∀ (x y : List UInt8), (Lib.compareBytes x y == 0) = (x == y)
  | [], [] => by decide
  | _ :: _, [] => by simp [Lib.compareBytes]
  | [], _ :: _ => by simp [Lib.compareBytes]
  | a :: x, b :: y => by
    have ih := cmp_zero x y
    rw [Lib.compareBytes, List.cons_beq_cons, ← ih]
    by_cases h1 : a < b
    · have : a ≠ b := fun h => by subst h; exact UInt8.lt_irrefl _ h1
      simp [h1, this]
    · by_cases h2 : b < a
      · have : a ≠ b := fun h => by subst h; exact UInt8.lt_irrefl _ h2
        simp [h1, h2, this]
      · have : a = b := UInt8.le_antisymm (UInt8.not_lt.1 h2) (UInt8.not_lt.1 h1)
        simp [this, UInt8.lt_irrefl]

theorem lt_iff (a b : ByteArray) : lt a b = true ↔ a.toList < b.toList := by simp [lt, less_eq]
theorem eq_iff (a b : ByteArray) : eq a b = true ↔ a.toList = b.toList := by simp [eq]
theorem lt_trans {a b c : ByteArray} (h : lt a b = true) (g : lt b c = true) : lt a c = true := by
  rw [lt_iff] at *; exact List.lt_trans h g
theorem lt_irrefl (a : ByteArray) : lt a a = false := by
  rw [Bool.eq_false_iff]; intro h; rw [lt_iff] at h; exact List.lt_irrefl _ h
theorem not_lt {a b : ByteArray} (h : lt a b = false) : eq a b = true ∨ lt b a = true := by
  by_cases e : a.toList = b.toList
  · left; exact (eq_iff a b).2 e
  · right; rw [lt_iff]
    have h' : ¬ a.toList < b.toList := fun g => by rw [(lt_iff a b).2 g] at h; cases h
    rcases List.le_iff_lt_or_eq.1 (List.not_lt.1 h') with h2 | h2
    · exact h2
    · exact absurd h2.symm e
theorem lt_eq {a b c : ByteArray} (h : lt a b = true) (g : eq b c = true) : lt a c = true := by
  rw [lt_iff] at *; rw [eq_iff] at g; rw [← g]; exact h
theorem eq_lt {a b c : ByteArray} (h : eq a b = true) (g : lt b c = true) : lt a c = true := by
  rw [lt_iff] at *; rw [eq_iff] at h; rw [h]; exact g
theorem eq_symm {a b : ByteArray} (h : eq a b = true) : eq b a = true := by rw [eq_iff] at *; exact h.symm
theorem lt_not_eq {a b : ByteArray} (h : lt a b = true) : eq a b = false := by
  rw [Bool.eq_false_iff]; intro e; have := lt_eq h (eq_symm e); rw [lt_irrefl] at this; cases this
theorem lt_asymm {a b : ByteArray} (h : lt a b = true) : lt b a = false := by
  rw [Bool.eq_false_iff]; intro e; have := lt_trans h e; rw [lt_irrefl] at this; cases this
theorem eq_refl (a : ByteArray) : eq a a = true := by simp [eq]

/-- How many of the first n strings sort before t. -/
def cnt (S : Nat → ByteArray) (t : ByteArray) : Nat → Nat
  | 0 => 0
  | n + 1 => cnt S t n + if lt (S n) t then 1 else 0
/-- Does t stand among the first n strings? -/
def mem (S : Nat → ByteArray) (t : ByteArray) : Nat → Bool
  | 0 => false
  | n + 1 => mem S t n || eq (S n) t
/-- Are the first n strings in strictly increasing order? -/
def srt (S : Nat → ByteArray) : Nat → Bool
  | 0 => true
  | 1 => true
  | n + 2 => srt S (n + 1) && lt (S n) (S (n + 1))
def Srt (S : Nat → ByteArray) (n : Nat) : Prop := ∀ i j, i < j → j < n → lt (S i) (S j) = true

theorem srt_step {S : Nat → ByteArray} : ∀ {n : Nat}, srt S n = true → ∀ i, i + 1 < n → lt (S i) (S (i + 1)) = true
  | 0, _ => fun i h => by omega
  | 1, _ => fun i h => by omega
  | n + 2, h => fun i hi => by
    simp [srt] at h
    by_cases e : i = n
    · subst e; exact h.2
    · exact srt_step h.1 i (by omega)
theorem srt_of_step {S : Nat → ByteArray} : ∀ {n : Nat}, (∀ i, i + 1 < n → lt (S i) (S (i + 1)) = true) → srt S n = true
  | 0, _ => rfl
  | 1, _ => rfl
  | n + 2, h => by
    simp [srt]
    exact ⟨srt_of_step fun i hi => h i (by omega), h n (by omega)⟩
theorem srt_Srt {S : Nat → ByteArray} {n : Nat} (h : srt S n = true) : Srt S n := by
  intro i j hij hj
  have st := srt_step h
  clear h
  induction j with
  | zero => omega
  | succ j ih =>
    by_cases e : i = j
    · subst e; exact st i hj
    · exact lt_trans (ih (by omega) (by omega)) (st j hj)
theorem Srt_srt {S : Nat → ByteArray} {n : Nat} (h : Srt S n) : srt S n = true :=
  srt_of_step fun i hi => h i (i + 1) (by omega) hi

theorem cnt_le (S : Nat → ByteArray) (t : ByteArray) : ∀ n, cnt S t n ≤ n
  | 0 => Nat.le_refl _
  | n + 1 => by have := cnt_le S t n; simp only [cnt]; split <;> omega

/-- Where the row is parted at p, p is the count. -/
theorem cnt_of {S : Nat → ByteArray} {t : ByteArray} {p : Nat} : ∀ {n : Nat}, p ≤ n → (∀ j, j < p → lt (S j) t = true) → (∀ j, p ≤ j → j < n → lt (S j) t = false) → cnt S t n = p
  | 0, h, _, _ => by have : p = 0 := by omega
                     subst this; rfl
  | n + 1, h, h1, h2 => by
    simp only [cnt]
    by_cases e : p = n + 1
    · subst e
      rw [h1 n (by omega)]
      have : cnt S t n = n := cnt_of (p := n) (Nat.le_refl _) (fun j hj => h1 j (by omega)) (fun j _ _ => by omega)
      simp [this]
    · rw [h2 n (by omega) (by omega)]
      have : cnt S t n = p := cnt_of (p := p) (by omega) h1 (fun j a b => h2 j a (by omega))
      simp [this]
theorem mem_iff {S : Nat → ByteArray} {t : ByteArray} : ∀ {n : Nat}, mem S t n = true ↔ ∃ j, j < n ∧ eq (S j) t = true
  | 0 => by simp [mem]
  | n + 1 => by
    simp only [mem, Bool.or_eq_true, mem_iff (n := n)]
    constructor
    · rintro (⟨j, a, b⟩ | h)
      · exact ⟨j, by omega, b⟩
      · exact ⟨n, by omega, h⟩
    · rintro ⟨j, a, b⟩
      by_cases e : j = n
      · subst e; exact .inr b
      · exact .inl ⟨j, by omega, b⟩
theorem mem_of {S : Nat → ByteArray} {t : ByteArray} {p n : Nat} (hs : Srt S n) (h : p ≤ n) (h1 : ∀ j, j < p → lt (S j) t = true) (h2 : ∀ j, p ≤ j → j < n → lt (S j) t = false) :
    mem S t n = (decide (p < n) && eq (S p) t) := by
  rw [Bool.eq_iff_iff, mem_iff]
  simp only [Bool.and_eq_true, decide_eq_true_eq]
  constructor
  · rintro ⟨j, a, b⟩
    have hp : p ≤ j := by
      by_cases e : p ≤ j
      · exact e
      · have := h1 j (by omega); rw [lt_not_eq this] at b; cases b
    by_cases e : p = j
    · subst e; exact ⟨a, b⟩
    · have g := hs p j (by omega) a
      have := h2 p (Nat.le_refl _) (by omega)
      rw [lt_eq g b] at this; cases this
  · rintro ⟨a, b⟩; exact ⟨p, a, b⟩

/-- The row is parted at its count. -/
theorem parted {S : Nat → ByteArray} (t : ByteArray) : ∀ {n : Nat}, Srt S n → (∀ j, j < cnt S t n → lt (S j) t = true) ∧ ∀ j, cnt S t n ≤ j → j < n → lt (S j) t = false
  | 0, _ => ⟨fun j h => by simp [cnt] at h, fun j _ h => by omega⟩
  | n + 1, h => by
    obtain ⟨a, b⟩ := parted t (n := n) fun i j x y => h i j x (by omega)
    have hle := cnt_le S t n
    by_cases e : lt (S n) t = true
    · have all : ∀ j, j < n + 1 → lt (S j) t = true := fun j hj => by
        by_cases q : j = n
        · subst q; exact e
        · exact lt_trans (h j n (by omega) (by omega)) e
      have c : cnt S t (n + 1) = n + 1 := cnt_of (Nat.le_refl _) all (fun j x y => by omega)
      rw [c]; exact ⟨all, fun j x y => by omega⟩
    · have e' : lt (S n) t = false := by simpa using e
      have c : cnt S t (n + 1) = cnt S t n := by simp [cnt, e']
      rw [c]
      refine ⟨a, fun j x y => ?_⟩
      by_cases q : j = n
      · subst q; exact e'
      · exact b j x (by omega)

/-! ### law 1: any cut -/
theorem want_ok {S : Nat → ByteArray} (t : ByteArray) {n : Nat} (h : Srt S n) : mem S t n = (decide (cnt S t n < n) && eq (S (cnt S t n)) t) :=
  mem_of h (cnt_le S t n) (parted t h).1 (parted t h).2
theorem mem_cut (S : Nat → ByteArray) (t : ByteArray) {n c : Nat} (h : c ≤ n) : mem S t n = (mem S t c || mem (fun j => S (c + j)) t (n - c)) := by
  rw [Bool.eq_iff_iff, Bool.or_eq_true, mem_iff, mem_iff, mem_iff]
  constructor
  · rintro ⟨j, a, b⟩
    by_cases e : j < c
    · exact .inl ⟨j, e, b⟩
    · exact .inr ⟨j - c, by omega, by rw [show c + (j - c) = j by omega]; exact b⟩
  · rintro (⟨j, a, b⟩ | ⟨j, a, b⟩)
    · exact ⟨j, by omega, b⟩
    · exact ⟨c + j, by omega, b⟩
theorem Srt_take {S : Nat → ByteArray} {n c : Nat} (h : Srt S n) (hc : c ≤ n) : Srt S c := fun i j a b => h i j a (by omega)
theorem Srt_drop {S : Nat → ByteArray} {n c : Nat} (h : Srt S n) (hc : c ≤ n) : Srt (fun j => S (c + j)) (n - c) := fun i j a b => h (c + i) (c + j) (by omega) (by omega)
theorem cnt_cut {S : Nat → ByteArray} (t : ByteArray) {n c : Nat} (h : Srt S n) (hc : c ≤ n) :
    (cnt S t c < c → cnt S t n = cnt S t c) ∧ (¬ cnt S t c < c → cnt S t n = c + cnt (fun j => S (c + j)) t (n - c)) := by
  obtain ⟨a, b⟩ := parted t (Srt_take h hc)
  obtain ⟨a', b'⟩ := parted t (Srt_drop h hc)
  have l1 := cnt_le S t c
  have l2 := cnt_le (fun j => S (c + j)) t (n - c)
  constructor
  · intro hlt
    refine cnt_of (by omega) a fun j x y => ?_
    by_cases q : j < c
    · exact b j x q
    · have u := b (cnt S t c) (Nat.le_refl _) hlt
      rw [Bool.eq_false_iff]; intro g
      rw [lt_trans (h (cnt S t c) j (by omega) y) g] at u; cases u
  · intro hlt
    refine cnt_of (by omega) (fun j x => ?_) fun j x y => ?_
    · by_cases q : j < c
      · exact a j (by omega)
      · have := a' (j - c) (by omega); rwa [show c + (j - c) = j by omega] at this
    · have := b' (j - c) (by omega) (by omega); rwa [show c + (j - c) = j by omega] at this

/-! ### law 2: put in, taken out -/
def put (S : Nat → ByteArray) (i : Nat) (t : ByteArray) : Nat → ByteArray := fun j => if j < i then S j else if j = i then t else S (j - 1)
def out (S : Nat → ByteArray) (i : Nat) : Nat → ByteArray := fun j => if j < i then S j else S (j + 1)

theorem put_srt {S : Nat → ByteArray} {t : ByteArray} {n : Nat} (h : Srt S n) (hm : mem S t n = false) : Srt (put S (cnt S t n) t) (n + 1) := by
  obtain ⟨a, b⟩ := parted t h
  have hle := cnt_le S t n
  intro i j hij hj
  simp only [put]
  by_cases c1 : i < cnt S t n
  · rw [if_pos c1]
    by_cases c2 : j < cnt S t n
    · rw [if_pos c2]; exact h i j hij (by omega)
    · rw [if_neg c2]
      by_cases c3 : j = cnt S t n
      · rw [if_pos c3]; exact a i c1
      · rw [if_neg c3]; exact h i (j - 1) (by omega) (by omega)
  · rw [if_neg c1, if_neg (show ¬ j < cnt S t n by omega), if_neg (show ¬ j = cnt S t n by omega)]
    by_cases c3 : i = cnt S t n
    · rw [if_pos c3]
      rcases not_lt (b (j - 1) (by omega) (by omega)) with e | e
      · have : mem S t n = true := mem_iff.2 ⟨j - 1, by omega, e⟩
        rw [this] at hm; cases hm
      · exact e
    · rw [if_neg c3]; exact h (i - 1) (j - 1) (by omega) (by omega)
theorem put_cnt {S : Nat → ByteArray} {t : ByteArray} {n : Nat} (h : Srt S n) : cnt (put S (cnt S t n) t) t (n + 1) = cnt S t n := by
  obtain ⟨a, b⟩ := parted t h
  have hle := cnt_le S t n
  refine cnt_of (by omega) (fun j x => ?_) fun j x y => ?_
  · simp only [put]; rw [if_pos x]; exact a j x
  · simp only [put]; rw [if_neg (by omega)]
    by_cases c : j = cnt S t n
    · rw [if_pos c]; exact lt_irrefl t
    · rw [if_neg c]; exact b (j - 1) (by omega) (by omega)
theorem put_mem (S : Nat → ByteArray) (t : ByteArray) {i n : Nat} (hi : i ≤ n) : mem (put S i t) t (n + 1) = true :=
  mem_iff.2 ⟨i, by omega, by simp [put, eq_refl]⟩
theorem out_srt {S : Nat → ByteArray} {n : Nat} (i : Nat) (h : Srt S n) : Srt (out S i) (n - 1) := by
  intro a b hab hb
  simp only [out]
  split
  · split
    · exact h a b hab (by omega)
    · exact h a (b + 1) (by omega) (by omega)
  · rw [if_neg (by omega)]; exact h (a + 1) (b + 1) (by omega) (by omega)
theorem out_both {S : Nat → ByteArray} {t : ByteArray} {n : Nat} (h : Srt S n) (hm : mem S t n = true) :
    cnt (out S (cnt S t n)) t (n - 1) = cnt S t n ∧ mem (out S (cnt S t n)) t (n - 1) = false := by
  obtain ⟨a, b⟩ := parted t h
  have hle := cnt_le S t n
  rw [want_ok t h] at hm
  simp only [Bool.and_eq_true, decide_eq_true_eq] at hm
  obtain ⟨hlt, heq⟩ := hm
  have above : ∀ j, cnt S t n < j → j < n → lt t (S j) = true := fun j x y => eq_lt (eq_symm heq) (h _ j x y)
  constructor
  · refine cnt_of (by omega) (fun j x => ?_) fun j x y => ?_
    · simp only [out]; rw [if_pos x]; exact a j x
    · simp only [out]; rw [if_neg (by omega)]; exact lt_asymm (above (j + 1) (by omega) (by omega))
  · rw [Bool.eq_false_iff]; intro g
    obtain ⟨j, x, y⟩ := mem_iff.1 g
    simp only [out] at y
    split at y
    · rename_i q; rw [lt_not_eq (a j q)] at y; cases y
    · have := above (j + 1) (by omega) (by omega)
      have z := lt_not_eq this
      rw [eq_symm y] at z; cases z

end Go.Proofs.Qxb6608990a.Pure
