/-
  RINGHOP: append(out, ps...) of a slice of peers.
-/
import Derived.Test.YbulkbsysLists
namespace Go.Proofs.Ybulkbsys
open Go.RowKit

theorem cellsOf_get : ∀ (ts : List (Fin 8)) (i r : Nat) (hi : i < ts.length), r < 21 → (cellsOf ts)[i * 21 + r]? = (pc ts[i])[r]?
  | [], i, r, hi, _ => by simp at hi
  | t :: ts, 0, r, _, hr => by
    have hc : cellsOf (t :: ts) = (pc t).toList ++ cellsOf ts := rfl
    rw [hc, Nat.zero_mul, Nat.zero_add, List.getElem?_append_left (by simp [size_pc]; exact hr)]
    simp
  | t :: ts, i + 1, r, hi, hr => by
    have hc : cellsOf (t :: ts) = (pc t).toList ++ cellsOf ts := rfl
    have hlp : (pc t).toList.length = 21 := by simp [size_pc]
    rw [hc, List.getElem?_append_right (by omega), hlp, show (i + 1) * 21 + r - 21 = i * 21 + r from by omega]
    exact cellsOf_get ts i r (by simpa using hi) hr
theorem single_cellsOf (ts : List (Fin 8)) : ∀ u ∈ cellsOf ts, u.oneCell' = true := by
  intro u hu
  simp only [cellsOf, List.mem_flatMap] at hu
  obtain ⟨t, _, ht⟩ := hu
  exact Array.all_eq_true_iff_forall_mem.1 (single_pc t) u (by simpa using ht)

/-- append(out, ps...), ps not empty. -/
theorem app_peers {w : World} {ops : Array Oper} {rest : List Oper} {o : Oper} {a : Act} {Q : Exit → Act → World → Prop} (hgd : o.guard = none) (s x : Operand)
    (ho : o.op = .call { callee := .builtin .append, args := #[s, x], argTypes := #[45, 45] }) (base : Nat) (v : Value) (ts : List (Fin 8)) (hs : a.eval s = v) (hown : Own w base v ts)
    (g off c : Nat) (ys : List (Fin 8)) (N : Nat) (hx : a.eval x = .slice (some ⟨g, off, none⟩) ys.length c) (hl : Lst w N (some ⟨g, off, none⟩) ys) (hpos : 0 < ys.length) (hlen : ts.length + ys.length ≤ 100000) (hbase : base ≤ w.heap.size)
    (h : ∀ g' cap w', Own w' base (.slice (some ⟨g', 0, none⟩) (ts.length + ys.length) cap) (ts ++ ys) → w.grownBy w' v.ownBlock → wpList Yba.prog ops Q rest (a.put o.dst (.slice (some ⟨g', 0, none⟩) (ts.length + ys.length) cap)) w') :
    wpList Yba.prog ops Q (o :: rest) a w := by
  obtain ⟨i, z, hi, hz, h1, h2, h3⟩ := info27
  refine wpList_append_lies (P := Yba.prog) w hgd s x 45 ho base 27 i z 21 40 Yba.underlying45 hi hz h1 h2 h3 (by decide) v ts.length (cellsOf ts) hs hown ⟨g, off, none⟩ ys.length c (cellsOf ys) hx (length_cellsOf ys) ?_ (single_cellsOf ys) hpos (by unfold maxLen; omega) (by omega) hbase w.heap.size rfl ?_
  · intro j u hu
    have hj : j < ys.length * 21 := by rw [← length_cellsOf]; exact (List.getElem?_eq_some_iff.1 hu).1
    obtain ⟨k, r, rfl, hr⟩ : ∃ k r, j = k * 21 + r ∧ r < 21 := ⟨j / 21, j % 21, by omega, by omega⟩
    have hk : k < ys.length := by omega
    obtain ⟨g', o', ha, _, _, hrow⟩ := hl k hk
    simp only [Option.some.injEq, Addr.mk.injEq, and_true] at ha
    obtain ⟨rfl, rfl⟩ := ha
    have hc := row?_cell hrow hr
    have hadd : (⟨g, off, none⟩ : Addr).add (k * 21 + r) = ⟨g, off + k * 21 + r, none⟩ := by
      rw [Addr.add_mid, Nat.add_assoc]
    rw [hadd, hc, ← cellsOf_get ys k r hk hr]
    exact hu
  · intro g' cap w' hown' hgrow _ _
    refine h g' cap w' ?_ hgrow
    unfold Own
    rw [List.length_append, cellsOf_append]
    exact hown'
/-- append(out, ps...), out not empty, ps whatever. -/
theorem app_any {w : World} {ops : Array Oper} {rest : List Oper} {o : Oper} {a : Act} {Q : Exit → Act → World → Prop} (hgd : o.guard = none) (s x : Operand)
    (ho : o.op = .call { callee := .builtin .append, args := #[s, x], argTypes := #[45, 45] }) (base : Nat) (v : Value) (ts : List (Fin 8)) (hs : a.eval s = v) (hown : Own w base v ts)
    (b : Option Addr) (c : Nat) (ys : List (Fin 8)) (N : Nat) (hx : a.eval x = .slice b ys.length c) (hl : Lst w N b ys) (hpos : 0 < ts.length) (hlen : ts.length + ys.length ≤ 100000) (hbase : base ≤ w.heap.size)
    (h : ∀ g' cap w', Own w' base (.slice (some ⟨g', 0, none⟩) (ts.length + ys.length) cap) (ts ++ ys) → w.grownBy w' v.ownBlock → wpList Yba.prog ops Q rest (a.put o.dst (.slice (some ⟨g', 0, none⟩) (ts.length + ys.length) cap)) w') :
    wpList Yba.prog ops Q (o :: rest) a w := by
  by_cases hy : 0 < ys.length
  · obtain ⟨g, off, rfl, _⟩ := hl 0 hy
    exact app_peers hgd s x ho base v ts hs hown g off c ys N hx hl hy hlen hbase h
  · obtain rfl : ys = [] := List.length_eq_zero_iff.1 (by omega)
    obtain ⟨i, z, hi, hz, h1, h2, h3⟩ := info27
    obtain ⟨g, cap, rfl, _, _⟩ := World.ownsRow.form hown hpos
    have hcap : ts.length ≤ cap := by
      rcases hown.2 with ⟨h0, _⟩ | ⟨g', cap', cur, hv, _, _, hnc, _⟩
      · simp at h0
      · simp only [Value.slice.injEq, true_and] at hv
        omega
    have hr : (Builtin.append_ #[45, 45] o.type #[.slice (some ⟨g, 0, none⟩) ts.length cap, .slice b 0 c]).run Yba.prog w = .ok (.slice (some ⟨g, 0, none⟩) ts.length cap) w := by
      cases b <;> simp [Builtin.append_, run_underlying Yba.underlying45, sizeOf, typeInfo, hi, Builtin.lenOf, Builtin.firstCells, hcap, storeCells, loadCells, loadCellsFrom]
    refine wpList_plain hgd fun _ hK => ?_
    unfold Oper.wp execOp
    have hx' : a.eval x = .slice b 0 c := hx
    simp only [ho, resolve, invoke, builtin, Sem.run_bind, Sem.run_pure, Result.andThen_ok, List.map_toArray, List.map_cons, List.map_nil, hs, hx', hr]
    refine hK _ _ ?_
    have := h g cap w (by simpa using hown) ⟨rfl, rfl, rfl, Nat.le_refl _, fun _ _ _ => rfl⟩
    simpa using this
end Go.Proofs.Ybulkbsys
