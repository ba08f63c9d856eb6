/-
  THE WALKS (2): errors.New, errors.Join, errors.Is.
-/
import Derived.Test.Qxb6615062aDoorWk1
import Derived.LaidEql
import Derived.Stop.Asserts
import Derived.RowKitTokens
namespace Go.Proofs.Qxb6615062aDoor
open Go.RowKit Go.Extern.Stop Go.Stop Go.Extern

theorem isComp : (Tryd.prog.info? 64).map (·.comparable) = some true := by kernel_rfl
theorem isSize : (Tryd.prog.info? 66).map (·.size) = some 1 := by kernel_rfl

theorem noIsE (v : Value) (xT : TypeId) (w : World) : (Instr.typeAssert (.iface 64 v) xT 76 true).run Tryd.prog w = .ok (.tuple #[.nilIface, .bool false]) w := run_typeAssert_lacksB Tryd.underlying76 (by kernel_rfl) (by kernel_rfl) v xT w
theorem noUnwrapE (v : Value) (xT : TypeId) (w : World) : (Instr.typeAssert (.iface 64 v) xT 79 true).run Tryd.prog w = .ok (.tuple #[.nilIface, .bool false]) w := run_typeAssert_lacksB Tryd.underlying79 (by kernel_rfl) (by kernel_rfl) v xT w
theorem noUnwrapsE (v : Value) (xT : TypeId) (w : World) : (Instr.typeAssert (.iface 64 v) xT 81 true).run Tryd.prog w = .ok (.tuple #[.nilIface, .bool false]) w := run_typeAssert_lacksB Tryd.underlying81 (by kernel_rfl) (by kernel_rfl) v xT w
theorem noIsJ (v : Value) (xT : TypeId) (w : World) : (Instr.typeAssert (.iface 61 v) xT 76 true).run Tryd.prog w = .ok (.tuple #[.nilIface, .bool false]) w := run_typeAssert_lacksB Tryd.underlying76 (by kernel_rfl) (by kernel_rfl) v xT w
theorem noUnwrapJ (v : Value) (xT : TypeId) (w : World) : (Instr.typeAssert (.iface 61 v) xT 79 true).run Tryd.prog w = .ok (.tuple #[.nilIface, .bool false]) w := run_typeAssert_lacksB Tryd.underlying79 (by kernel_rfl) (by kernel_rfl) v xT w
theorem hasUnwrapsJ (v : Value) (xT : TypeId) (w : World) : (Instr.typeAssert (.iface 61 v) xT 81 true).run Tryd.prog w = .ok (.tuple #[.iface 61 v, .bool true]) w := run_typeAssert_hasB Tryd.underlying81 (by kernel_rfl) v xT w

theorem call21 (v : Value) (w : World) : (callFunc 21 #[.iface 64 v]).run Tryd.prog w = .ok (.value (.iface 74 (.agg #[.pointer (some ⟨1, 64, none⟩)]))) w := by kernel_rfl
theorem call45 (w : World) : (callFunc 45 #[.agg #[.pointer (some ⟨1, 64, none⟩)]]).run Tryd.prog w = .ok (.value (.bool true)) w := by kernel_rfl

theorem methodComparable (v : Value) (w : World) : (Go.method 225 74 v "Comparable").run Tryd.prog w = .ok (45, v) w := by kernel_rfl
theorem methodUnwrap (v : Value) (w : World) : (Go.method 225 61 v "Unwrap").run Tryd.prog w = .ok (40, v) w := by kernel_rfl

set_option maxRecDepth 100000 in
/-- errors.is(x, x, true). -/
theorem is22_same (a : Addr) (w : World) :
    Calls Tryd.prog 22 #[.iface 64 (.pointer (some a)), .iface 64 (.pointer (some a)), .bool true] w fun e w' => e = .returned (.bool true) ∧ w' = w := by
  obtain ⟨i, hi, hcmp⟩ := Option.map_eq_some_iff.1 isComp
  obtain ⟨j, hj, hjs⟩ := Option.map_eq_some_iff.1 isSize
  have heq := run_eql_iface_ptr_same (P := Tryd.prog) w a Tryd.underlying54 Tryd.underlying64 hi hcmp hj
  go_enter Tryd.func22, Tryd.ntmps22
  go_wp2
  refine wp_loop_rounds 1 ?_
  rw [rounds_succ]
  go_wp2
  go_ret
  exact ⟨rfl, rfl⟩

set_option maxRecDepth 100000 in
/-- errors.is(x, y, true), two different pointers to errors.errorString. -/
theorem is22_other (a b : Addr) (ca cb : Array Value) (ta tb : TypeId) (w : World) (hne : a ≠ b) (ha : w.heap[a.block]? = some (.cells ca ta (0, 0))) (hb : w.heap[b.block]? = some (.cells cb tb (0, 0))) :
    Calls Tryd.prog 22 #[.iface 64 (.pointer (some a)), .iface 64 (.pointer (some b)), .bool true] w fun e w' => e = .returned (.bool false) ∧ w' = w := by
  obtain ⟨i, hi, hcmp⟩ := Option.map_eq_some_iff.1 isComp
  obtain ⟨j, hj, hjs⟩ := Option.map_eq_some_iff.1 isSize
  have nE := noIsE
  have uE := noUnwrapE
  have vE := noUnwrapsE
  have heq := run_eql_iface_ptr_other (P := Tryd.prog) w Tryd.underlying54 Tryd.underlying64 hi hcmp hj (by rw [hjs]; decide) hne ha hb
  go_enter Tryd.func22, Tryd.ntmps22
  go_wp2
  refine wp_loop_rounds 1 ?_
  rw [rounds_succ]
  go_wp2
  go_ret
  exact ⟨rfl, rfl⟩

theorem unwrap_any (q g : Nat) (l c : Nat) (w : World) (h : w.cell? ⟨q, 0, none⟩ = some (.slice (some ⟨g, 0, none⟩) l c)) :
    Calls Tryd.prog 40 #[.pointer (some ⟨q, 0, none⟩)] w fun e w' => e = .returned (.slice (some ⟨g, 0, none⟩) l c) ∧ w' = w := by
  go_enter Tryd.func40, Tryd.ntmps40
  go_wp2
  go_ret
  exact ⟨rfl, rfl⟩

set_option maxRecDepth 100000 in
/-- errors.is(e, x, true), e a *errors.joinError that holds x alone. -/
theorem is22_join (q g c : Nat) (b : Addr) (w : World) (hq : w.cell? ⟨q, 0, none⟩ = some (.slice (some ⟨g, 0, none⟩) 1 c)) (hg : w.cell? ⟨g, 0, none⟩ = some (.iface 64 (.pointer (some b)))) :
    Calls Tryd.prog 22 #[.iface 61 (.pointer (some ⟨q, 0, none⟩)), .iface 64 (.pointer (some b)), .bool true] w fun e w' => e = .returned (.bool true) ∧ w' = w := by
  have nE := noIsJ
  have uE := noUnwrapJ
  have vE := hasUnwrapsJ
  have mU := methodUnwrap
  have hty := run_eql_iface_types (P := Tryd.prog) 61 64 (.pointer (some ⟨q, 0, none⟩)) (.pointer (some b)) Tryd.underlying54 (by decide) w
  go_enter Tryd.func22, Tryd.ntmps22
  go_wp2
  refine wp_loop_rounds 1 ?_
  rw [rounds_succ]
  go_wp2_with (go_at_call 40; refine (unwrap_any q g 1 c _ hq).mono ?_; rintro e w' ⟨rfl, rfl⟩)
  refine wp_loop_rounds 1 ?_
  rw [rounds_succ]
  go_wp2_with (go_at_call 22; refine (is22_same b _).mono ?_; rintro e w' ⟨rfl, rfl⟩)
  go_ret
  exact ⟨rfl, rfl⟩

/-- errors.Is, its target a pointer to an errors.errorString, over errors.is. -/
theorem is_of (v : Value) (t : TypeId) (b : Addr) (r : Bool) (w : World) (h22 : Calls Tryd.prog 22 #[.iface t v, .iface 64 (.pointer (some b)), .bool true] w fun e w' => e = .returned (.bool r) ∧ w' = w) :
    Calls Tryd.prog 19 #[.iface t v, .iface 64 (.pointer (some b))] w fun e w' => e = .returned (.bool r) ∧ w' = w := by
  have h21 := call21
  have h45 := call45
  have mR := methodComparable
  have H : Hid (Calls Tryd.prog 22 #[.iface t v, .iface 64 (.pointer (some b)), .bool true] w fun e w' => e = .returned (.bool r) ∧ w' = w) := h22
  clear h22
  go_enter Tryd.func19, Tryd.ntmps19
  go_wp2_with (go_at_call 22; refine H.out.mono ?_; rintro e w' ⟨rfl, rfl⟩)
  go_ret
  exact ⟨rfl, rfl⟩

theorem new17_any (t : ByteArray) (w : World) :
    Calls Tryd.prog 17 #[.string t] w fun e w' => e = .returned (.iface 64 (.pointer (some ⟨w.heap.size, 0, none⟩))) ∧ w' = w.alloc (.cells #[.string t] 66) := by
  go_enter Tryd.func17, Tryd.ntmps17
  go_wp2
  go_ret
  exact ⟨rfl, rfl⟩

end Go.Proofs.Qxb6615062aDoor
