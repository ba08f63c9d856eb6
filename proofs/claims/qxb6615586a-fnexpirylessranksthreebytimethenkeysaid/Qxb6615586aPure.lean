/-
  THE PLAIN LAW of the three expiries: no Go in sight.
-/
import Derived.Lib.Bytealg
import Derived.Lib.Strings
namespace Go.Proofs.Qxb6615586a.Pure
open Go

/-- Go's '<' on strings, as the walk spells it. -/
def lt (a b : ByteArray) : Bool := Op.bytesLess a.toList b.toList
/-- Go's '==' on strings. -/
def eq (a b : ByteArray) : Bool := a.toList == b.toList

theorem less_eq : ∀ (x y : List UInt8), Op.bytesLess x y = decide (x < y)
  | [], [] => by simp [Op.bytesLess]
  | _ :: _, [] => by simp [Op.bytesLess]
  | [], _ :: _ => by simp [Op.bytesLess]
  | a :: x, b :: y => by
    rw [Op.bytesLess, less_eq x y]
    simp only [List.cons_lt_cons_iff]
    by_cases h1 : a < b <;> by_cases h2 : a = b <;> by_cases h3 : x < y <;> simp [h1, h2, h3]

theorem cmp_lt : ∀ (x y : List UInt8), decide (Lib.compareBytes x y < 0) = Op.bytesLess x y
  | [], [] => by decide
  | _ :: _, [] => by simp [Op.bytesLess, Lib.compareBytes]
  | [], _ :: _ => by simp [Op.bytesLess, Lib.compareBytes]
  | a :: x, b :: y => by
    have ih := cmp_lt x y
    rw [Op.bytesLess, Lib.compareBytes, ← ih]
    by_cases h1 : a < b
    · simp [h1]
    · by_cases h2 : b < a
      · have : a ≠ b := fun h => by subst h; exact UInt8.lt_irrefl _ h2
        simp [h1, h2, this]
      · have : a = b := UInt8.le_antisymm (UInt8.not_lt.1 h2) (UInt8.not_lt.1 h1)
        simp [this, UInt8.lt_irrefl]

theorem cmp_zero : ∀ (x y : List UInt8), (Lib.compareBytes x y == 0) = (x == y)
  | [], [] => by decide
  | _ :: _, [] => by simp [Lib.compareBytes]
  | [], _ :: _ => by simp [Lib.compareBytes]
  | a :: x, b :: y => by
    have ih := cmp_zero x y
    rw [Lib.compareBytes, List.cons_beq_cons, ← ih]
    by_cases h1 : a < b
    · have : a ≠ b := fun h => by subst h; exact UInt8.lt_irrefl _ h1
      simp [h1, this]
    · by_cases h2 : b < a
      · have : a ≠ b := fun h => by subst h; exact UInt8.lt_irrefl _ h2
        simp [h1, h2, this]
      · have : a = b := UInt8.le_antisymm (UInt8.not_lt.1 h2) (UInt8.not_lt.1 h1)
        simp [this, UInt8.lt_irrefl]

theorem lt_iff (a b : ByteArray) : lt a b = true ↔ a.toList < b.toList := by simp [lt, less_eq]
theorem eq_iff (a b : ByteArray) : eq a b = true ↔ a.toList = b.toList := by simp [eq]
theorem lt_trans {a b c : ByteArray} (h : lt a b = true) (g : lt b c = true) : lt a c = true := by
  rw [lt_iff] at *; exact List.lt_trans h g
theorem lt_irrefl (a : ByteArray) : lt a a = false := by
  rw [Bool.eq_false_iff]; intro h; rw [lt_iff] at h; exact List.lt_irrefl _ h
theorem not_lt {a b : ByteArray} (h : lt a b = false) : eq a b = true ∨ lt b a = true := by
  by_cases e : a.toList = b.toList
  · left; exact (eq_iff a b).2 e
  · right; rw [lt_iff]
    have h' : ¬ a.toList < b.toList := fun g => by rw [(lt_iff a b).2 g] at h; cases h
    rcases List.le_iff_lt_or_eq.1 (List.not_lt.1 h') with h2 | h2
    · exact h2
    · exact absurd h2.symm e
theorem lt_eq {a b c : ByteArray} (h : lt a b = true) (g : eq b c = true) : lt a c = true := by
  rw [lt_iff] at *; rw [eq_iff] at g; rw [← g]; exact h
theorem eq_lt {a b c : ByteArray} (h : eq a b = true) (g : lt b c = true) : lt a c = true := by
  rw [lt_iff] at *; rw [eq_iff] at h; rw [h]; exact g
theorem eq_symm {a b : ByteArray} (h : eq a b = true) : eq b a = true := by rw [eq_iff] at *; exact h.symm
theorem lt_not_eq {a b : ByteArray} (h : lt a b = true) : eq a b = false := by
  rw [Bool.eq_false_iff]; intro e; have := lt_eq h (eq_symm e); rw [lt_irrefl] at this; cases this
theorem lt_asymm {a b : ByteArray} (h : lt a b = true) : lt b a = false := by
  rw [Bool.eq_false_iff]; intro e; have := lt_trans h e; rw [lt_irrefl] at this; cases this
theorem eq_refl (a : ByteArray) : eq a a = true := by simp [eq]

/-- THE ORDER: by instant, then by key. -/
def before (n1 : Int) (k1 : ByteArray) (n2 : Int) (k2 : ByteArray) : Bool := if n1 = n2 then lt k1 k2 else decide (n1 < n2)

theorem before_asymm {n1 n2 : Int} {k1 k2 : ByteArray} (h : before n1 k1 n2 k2 = true) : before n2 k2 n1 k1 = false := by
  unfold before at *
  by_cases e : n1 = n2
  · subst e; simp only [if_true] at *; exact lt_asymm h
  · rw [if_neg e] at h; rw [if_neg (fun g => e g.symm)]; simp at *; omega
theorem before_total {n1 n2 : Int} {k1 k2 : ByteArray} (h : before n1 k1 n2 k2 = false) (g : before n2 k2 n1 k1 = false) : n1 = n2 ∧ eq k1 k2 = true := by
  unfold before at *
  by_cases e : n1 = n2
  · subst e; simp only [if_true] at *
    refine ⟨trivial, ?_⟩
    rcases not_lt h with x | x
    · exact x
    · rw [g] at x; cases x
  · rw [if_neg e] at h; rw [if_neg (fun g => e g.symm)] at g; simp at *; omega
theorem before_trans {n1 n2 n3 : Int} {k1 k2 k3 : ByteArray} (h : before n1 k1 n2 k2 = true) (g : before n2 k2 n3 k3 = true) : before n1 k1 n3 k3 = true := by
  unfold before at *
  by_cases e : n1 = n2
  · subst e
    by_cases f : n1 = n3
    · subst f; simp only [if_true] at *; exact lt_trans h g
    · rw [if_neg f] at *; exact g
  · rw [if_neg e] at h
    by_cases f : n2 = n3
    · subst f; rw [if_neg e]; exact h
    · rw [if_neg f] at g
      simp at h g
      rw [if_neg (by omega)]; simp; omega

/-- What (time.Time).Compare hands back at two instants that many nanoseconds from the zero time. -/
def cmpT (n1 n2 : Int) : Int := if n1 < n2 then -1 else if n2 < n1 then 1 else 0
/-- cmp.Or of two. -/
def orI (x y : Int) : Int := if x = 0 then y else x
theorem or_before (n1 n2 : Int) (k1 k2 : ByteArray) : decide (orI (cmpT n1 n2) (Lib.compareBytes k1.data.toList k2.data.toList) < 0) = before n1 k1 n2 k2 := by
  unfold orI cmpT before
  by_cases e : n1 = n2
  · subst e
    simp only [Int.lt_irrefl, if_false, if_true]
    have := cmp_lt k1.data.toList k2.data.toList
    rw [lt, Lib.toList_data, Lib.toList_data, ← this]
  · rw [if_neg e]
    by_cases f : n1 < n2
    · simp [f]
    · have : n2 < n1 := by omega
      simp [f, this]

end Go.Proofs.Qxb6615586a.Pure
