/-
  A LAW: 'append(dst, s...)', dst a slice that the call itself made, s a string.
-/
import Derived.WalkKit
import Derived.Deep.AppendSrc
import Derived.Maps.AppendAt
namespace Go.Proofs.Qxb6615609a
open Go.RowKit

section
variable {P : Program} (w : World)

theorem run_append_str (base : Nat) (t tx ty e : TypeId) (i : TypeInfo) (z : Value) (ht : P.underlying t = some (.slice e)) (hx : P.underlying tx = some .string) (hi : P.info? e = some i) (hz : i.zero = some z) (hsize : i.size = 1) (hby : i.bytes = 1) (hzs : z.cells.size = 1)
    (g n cap : Nat) (xs : List Value) (s : ByteArray) (hown : w.ownsRow base e 1 (.slice (some ⟨g, 0, none⟩) n cap) n xs) (hbd : n + s.size ≤ 140737488355328) (hbase : base ≤ w.heap.size) :
    ∃ g' cap' w', (Builtin.append_ #[t, tx] ty #[.slice (some ⟨g, 0, none⟩) n cap, .string s]).run P w = .ok (.slice (some ⟨g', 0, none⟩) (n + s.size) cap') w' ∧
      w'.ownsRow base e 1 (.slice (some ⟨g', 0, none⟩) (n + s.size) cap') (n + s.size) (xs ++ byteCells s) ∧ w.grownBy w' (some g) ∧ (g = g' ∨ g' = w.heap.size) := by
  have hbl := byteCells_length s
  have h1 : ∀ u ∈ byteCells s, u.oneCell' = true := fun u hu => by
    obtain ⟨_, _, rfl⟩ := List.mem_map.1 hu
    rfl
  rcases hown.2 with ⟨h', _⟩ | ⟨g0, cap0, cur, h', hbg, hg, hnc, hcm, hcs, htake⟩
  · cases h'
  · cases h'
    have hxl : xs.length = n := by simpa using hown.1
    have hlen : (xs ++ byteCells s).length = (n + s.size) * 1 := by rw [List.length_append, hxl, hbl, Nat.mul_one]
    by_cases hroom : n + s.size ≤ cap
    · have hf := firstCells_string (P := P) s w
      have hst := run_storeCells_at P g n e (byteCells s) 0 cur w hg (by rw [hbl]; omega) h1
      simp only [Nat.add_zero] at hst
      have hr : (Builtin.append_ #[t, tx] ty #[.slice (some ⟨g, 0, none⟩) n cap, .string s]).run P w =
          .ok (.slice (some ⟨g, 0, none⟩) (n + s.size) cap) (w.setRow g (cur.toList.take n ++ byteCells s ++ cur.toList.drop (n + (byteCells s).length)).toArray) := by
        simp [Builtin.append_, run_underlying ht, run_underlying hx, sizeOf, typeInfo, hi, hsize, Builtin.lenOf, hroom, hf, Addr.add_lit, hst]
      refine ⟨g, cap, _, hr, ⟨hlen, .inr ⟨g, cap, _, rfl, hbg, setRow_heap w g cur _ e _ hg, hroom, hcm, ?_, ?_⟩⟩, ⟨rfl, rfl, rfl, by simp, fun k _ hk => setRow_other w g k _ (fun e => hk (by rw [e]))⟩, .inl rfl⟩
      · simp only [List.size_toArray, List.length_append, List.length_take, List.length_drop, Array.length_toList, hbl]
        omega
      · simp only [Nat.mul_one] at htake hlen ⊢
        rw [htake, ← hlen]
        exact List.take_left
    · have holds : ∀ j u, xs[j]? = some u → w.cell? ((⟨g, 0, none⟩ : Addr).add j) = some u := hown.cells (g := g) rfl
      have hold : (Builtin.firstCells i.size n (.slice (some ⟨g, 0, none⟩) n cap)).run P w.drew = .ok xs.toArray w.drew := by
        rw [hsize]; exact run_firstCells_some w.drew 1 n ⟨g, 0, none⟩ n cap xs (by omega) (by simpa using holds)
      have hs : Src P i.size tx (.string s) s.size (byteCells s) w := by rw [hsize]; exact Src.ofString w hx s
      have hr := run_append_grow_src (P := P) w t tx ty e i z ht hi hz (some ⟨g, 0, none⟩) n cap xs hold (.string s) s.size (byteCells s) hs (by omega) (by omega) (growslice_fits (by omega) (by rw [hby]; omega))
      have hge := grownCap_ge w (n + s.size) cap e
      have hcm' : grownCap w (n + s.size) cap e ≤ maxLen := grownCap_le_maxLen w (n + s.size) cap e (by unfold maxLen; omega)
      refine ⟨w.heap.size, _, _, hr, ⟨hlen, .inr ⟨w.heap.size, _, _, rfl, hbase, heap_alloc_new w.drew _, hge, hcm', ?_, ?_⟩⟩, ⟨rfl, rfl, rfl, by simp, fun k hk _ => heap_alloc_old w.drew _ hk⟩, .inr rfl⟩
      · simp only [Array.size_append, List.size_toArray, size_zeroCells, hzs, hlen, Nat.mul_one]
        omega
      · simp only [Array.toList_append]
        rw [← hlen]
        exact List.take_left

/-- AT THE OPERATION, for the walk. -/
theorem wpList_append_str {ops : Array Oper} {rest : List Oper} {o : Oper} {a : Act} {Q : Exit → Act → World → Prop} (hgd : o.guard = none) (so xo : Operand) (t tx : TypeId)
    (ho : o.op = .call { callee := .builtin .append, args := #[so, xo], argTypes := #[t, tx] })
    (base : Nat) (e : TypeId) (i : TypeInfo) (z : Value) (ht : P.underlying t = some (.slice e)) (hx : P.underlying tx = some .string) (hi : P.info? e = some i) (hz : i.zero = some z) (hsize : i.size = 1) (hby : i.bytes = 1) (hzs : z.cells.size = 1)
    (g n cap : Nat) (xs : List Value) (s : ByteArray) (hs : a.eval so = .slice (some ⟨g, 0, none⟩) n cap) (hsx : a.eval xo = .string s) (hown : w.ownsRow base e 1 (.slice (some ⟨g, 0, none⟩) n cap) n xs) (hbd : n + s.size ≤ 140737488355328) (hbase : base ≤ w.heap.size)
    (h : ∀ g' cap' w', w'.ownsRow base e 1 (.slice (some ⟨g', 0, none⟩) (n + s.size) cap') (n + s.size) (xs ++ byteCells s) → w.grownBy w' (some g) → (g = g' ∨ g' = w.heap.size) → wpList P ops Q rest (a.put o.dst (.slice (some ⟨g', 0, none⟩) (n + s.size) cap')) w') :
    wpList P ops Q (o :: rest) a w := by
  refine wpList_plain hgd fun K hK => ?_
  obtain ⟨g', cap', w', hr, h2, h3, h4⟩ := run_append_str (P := P) w base t tx o.type e i z ht hx hi hz hsize hby hzs g n cap xs s hown hbd hbase
  unfold Oper.wp execOp
  simp only [ho, resolve, invoke, builtin, Sem.run_bind, Sem.run_pure, Result.andThen_ok, List.map_toArray, List.map_cons, List.map_nil, hs, hsx, hr]
  exact hK _ _ (h g' cap' w' h2 h3 h4)

end
end Go.Proofs.Qxb6615609a
