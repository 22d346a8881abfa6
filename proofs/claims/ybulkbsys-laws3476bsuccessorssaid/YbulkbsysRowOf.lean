/-
  RINGHOP: slices of peers that a call owns; appending one peer.
-/
import Derived.Test.YbulkbsysNode
import Derived.Deep.AppendLies
namespace Go.Proofs.Ybulkbsys
open Go.RowKit

/-- The cells of a list of peers, end to end. -/
def cellsOf (ts : List (Fin 8)) : List Value := ts.flatMap fun t => (pc t).toList
theorem length_cellsOf : ∀ ts : List (Fin 8), (cellsOf ts).length = ts.length * 21
  | [] => rfl
  | t :: ts => by
    have := length_cellsOf ts
    simp only [cellsOf, List.flatMap_cons, List.length_append, Array.length_toList, size_pc, List.length_cons] at this ⊢
    omega
theorem cellsOf_append (a b : List (Fin 8)) : cellsOf (a ++ b) = cellsOf a ++ cellsOf b := by simp [cellsOf]
theorem cellsOf_one (t : Fin 8) : cellsOf [t] = (pc t).toList := by simp [cellsOf]
/-- The slice v, in memory from block 'base' on, is the peers ts. -/
def Own (w : World) (base : Nat) (v : Value) (ts : List (Fin 8)) : Prop := w.ownsRow base 27 21 v ts.length (cellsOf ts)
theorem own_nil (w : World) (base : Nat) : Own w base (.slice none 0 0) [] := ⟨rfl, .inl ⟨rfl, rfl⟩⟩
theorem info27 : ∃ i z, Yba.prog.info? 27 = some i ∧ i.zero = some z ∧ i.size = 21 ∧ i.bytes = 40 ∧ z.cells.size = 21 := info_of (by kernel_rfl)

def bsRow (ps : Array (Nat × Value)) : Sem Value := Instr.buildSlice 45 1 ps
theorem bs45 (ps : Array (Nat × Value)) : Instr.buildSlice 45 1 ps = bsRow ps := rfl
theorem run_bs45 (w : World) (t : Fin 8) : (bsRow #[(0, .agg (pc t))]).run Yba.prog w = .ok (.slice (some ⟨w.heap.size, 0, none⟩) 1 1) (w.alloc (.cells (pc t) 27)) := by kernel_rfl

/-- append(out, p). -/
theorem app_peer {w : World} {ops : Array Oper} {rest : List Oper} {o : Oper} {a : Act} {Q : Exit → Act → World → Prop} (hgd : o.guard = none) (s x : Operand)
    (ho : o.op = .call { callee := .builtin .append, args := #[s, x], argTypes := #[45, 45] }) (base : Nat) (v : Value) (ts : List (Fin 8)) (hs : a.eval s = v) (hown : Own w base v ts)
    (B : Nat) (t : Fin 8) (hx : a.eval x = .slice (some ⟨B, 0, none⟩) 1 1) (hB : row? w B 0 21 = some (pc t)) (hlen : ts.length ≤ 100000) (hbase : base ≤ w.heap.size)
    (h : ∀ g cap w', Own w' base (.slice (some ⟨g, 0, none⟩) (ts.length + 1) cap) (ts ++ [t]) → w.grownBy w' v.ownBlock → (v.ownBlock = some g ∨ g = w.heap.size) → g < w'.heap.size → wpList Yba.prog ops Q rest (a.put o.dst (.slice (some ⟨g, 0, none⟩) (ts.length + 1) cap)) w') :
    wpList Yba.prog ops Q (o :: rest) a w := by
  obtain ⟨i, z, hi, hz, h1, h2, h3⟩ := info27
  refine wpList_append_lies (P := Yba.prog) w hgd s x 45 ho base 27 i z 21 40 Yba.underlying45 hi hz h1 h2 h3 (by decide) v ts.length (cellsOf ts) hs hown ⟨B, 0, none⟩ 1 1 (pc t).toList hx (by simp [size_pc]) ?_ ?_ (by decide) (by unfold maxLen; omega) (by omega) hbase w.heap.size rfl ?_
  · intro j u hu
    have := row?_range hB j u hu
    simp only [Nat.zero_add] at this
    have hadd : (⟨B, 0, none⟩ : Addr).add j = ⟨B, j, none⟩ := by unfold Addr.add; split <;> simp_all
    rw [hadd]; exact this
  · intro u hu
    have := single_pc t
    exact Array.all_eq_true_iff_forall_mem.1 this u (by simpa using hu)
  · intro g cap w' hown' hgrow hat hlt
    refine h g cap w' ?_ hgrow hat hlt
    unfold Own
    rw [List.length_append, cellsOf_append, cellsOf_one]
    exact hown'

/-- The i-th peer of such a slice, where it lies. -/
theorem Own.at {w : World} {base : Nat} {g n cap : Nat} {ts : List (Fin 8)} (h : Own w base (.slice (some ⟨g, 0, none⟩) n cap) ts) {i : Nat} (hi : i < ts.length) :
    n = ts.length ∧ base ≤ g ∧ g < w.heap.size ∧ row? w g (i * 21) 21 = some (pc ts[i]) := by
  obtain ⟨hl, h2⟩ := h
  rcases h2 with ⟨h0, _⟩ | ⟨g', cap', cur, hv, hb, hh, hn, _, hsz, htk⟩
  · simp at h0
  · simp only [Value.slice.injEq, Option.some.injEq, Addr.mk.injEq, and_true] at hv
    obtain ⟨rfl, rfl, rfl⟩ := hv
    refine ⟨rfl, hb, (Array.getElem?_eq_some_iff.1 hh).1, ?_⟩
    unfold row?
    rw [hh]
    have hle : ts.length * 21 ≤ cap * 21 := Nat.mul_le_mul_right 21 hn
    have hle2 : (i + 1) * 21 ≤ ts.length * 21 := Nat.mul_le_mul_right 21 hi
    simp only
    rw [if_pos (by omega)]
    congr 1
    have key : ∀ (ts : List (Fin 8)) (i : Nat) (hi : i < ts.length), ((cellsOf ts).drop (i * 21)).take 21 = (pc ts[i]).toList := by
      intro ts
      induction ts with
      | nil => intro i hi; simp at hi
      | cons t ts ih =>
        intro i hi
        have hc : cellsOf (t :: ts) = (pc t).toList ++ cellsOf ts := rfl
        have hlp : (pc t).toList.length = 21 := by simp [size_pc]
        cases i with
        | zero => rw [hc, Nat.zero_mul, List.drop_zero, List.take_append_of_le_length (by omega), List.take_of_length_le (by omega)]; rfl
        | succ i =>
          rw [hc, show (i + 1) * 21 = 21 + i * 21 from by omega, ← List.drop_drop, List.drop_left' hlp]
          exact ih i (by simpa using hi)
    apply Array.ext'
    rw [Array.toList_extract, List.extract_eq_take_drop, show i * 21 + 21 - i * 21 = 21 from by omega, ← key ts i hi, ← htk]
    rw [List.drop_take, List.take_take, Nat.min_eq_left (by omega)]
end Go.Proofs.Ybulkbsys
