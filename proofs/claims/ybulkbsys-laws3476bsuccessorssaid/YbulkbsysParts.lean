/-
  RINGHOP: make([]Peer, n), and such a slice as it is filled.
-/
import Derived.Test.YbulkbsysLists
import Derived.Laws.MakeOwn
namespace Go.Proofs.Ybulkbsys
open Go.RowKit

/-- The cells of n peers, all zero. -/
noncomputable def mkc (n : Nat) : Array Value := madeCells (((Yba.prog.info? 27).bind (·.zero)).getD undef).cells (n * 21)
theorem size_mkc (n : Nat) : (mkc n).size = n * 21 := size_madeCells _ _
def mkRow (a b : Value) : Sem Value := Instr.makeSlice 45 a b
theorem mk45 (a b : Value) : Instr.makeSlice 45 a b = mkRow a b := rfl
theorem run_mk45 (n : Nat) (hn : n ≤ 100000) (w : World) : (mkRow (.int .i64 (n : Int)) (.int .i64 (n : Int))).run Yba.prog w = .ok (.slice (some ⟨w.heap.size, 0, none⟩) n n) (w.alloc (.cells (mkc n) 27)) := by
  obtain ⟨i, z, hi, hz, h1, h2, h3⟩ := info27
  have := run_make (P := Yba.prog) w 45 27 i z Yba.underlying45 hi hz .i64 .i64 (n : Int) (n : Int) (by omega) (by omega) (by rw [h2]; omega) (by omega)
  unfold mkRow
  rw [this, h1, Int.toNat_natCast]
  unfold mkc
  rw [hi]
  simp [hz]

/-- Block b holds n peers' room, and the first k are F's. -/
def Part (w : World) (b n k : Nat) (F : Nat → Fin 8) : Prop := b < w.heap.size ∧ loose w b = true ∧ ∀ i, i < n → ∃ c, row? w b (i * 21) 21 = some c ∧ (i < k → c = pc (F i))
theorem Part.new (w : World) (n : Nat) (F : Nat → Fin 8) : Part (w.alloc (.cells (mkc n) 27)) w.heap.size n 0 F := by
  refine ⟨by simp, loose_alloc_at _ _ _ _ rfl, fun i hi => ?_⟩
  rw [row?_alloc_at _ _ _ _ _ _ rfl, if_pos (by rw [size_mkc]; omega)]
  exact ⟨_, rfl, fun h => by omega⟩
theorem Part.below {w w' : World} {b n k B : Nat} {F : Nat → Fin 8} (h : Part w b n k F) (hb : Below B w w') (hB : w.heap.size ≤ B) : Part w' b n k F := by
  obtain ⟨h1, h2, h3⟩ := h
  refine ⟨Nat.lt_of_lt_of_le h1 hb.size, (loose_of_block (hb.block b (by omega))).trans h2, fun i hi => ?_⟩
  obtain ⟨c, hc, hk⟩ := h3 i hi
  exact ⟨c, (row?_of_block (hb.block b (by omega)) _ _).trans hc, hk⟩
theorem Part.alloc {w : World} {b n k : Nat} {F : Nat → Fin 8} (h : Part w b n k F) (ob : Obj) : Part (w.alloc ob) b n k F := h.below ((Below.refl _ _).alloc (Nat.le_refl _) _) (Nat.le_refl _)
theorem Part.other {w : World} {b n k b' o : Nat} {cs : Array Value} {F : Nat → Fin 8} (h : Part w b n k F) (hne : b ≠ b') : Part (setRow w b' o cs) b n k F := by
  obtain ⟨h1, h2, h3⟩ := h
  refine ⟨by rw [size_setRow]; exact h1, by rw [loose_setRow]; exact h2, fun i hi => ?_⟩
  obtain ⟨c, hc, hk⟩ := h3 i hi
  exact ⟨c, (row?_of_block (setRow_other w b' o cs hne) _ _).trans hc, hk⟩
theorem Part.put {w : World} {b n k : Nat} {F : Nat → Fin 8} (h : Part w b n k F) (hk : k < n) : Part (setRow w b (k * 21) (pc (F k))) b n (k + 1) F := by
  obtain ⟨h1, h2, h3⟩ := h
  refine ⟨by rw [size_setRow]; exact h1, by rw [loose_setRow]; exact h2, fun i hi => ?_⟩
  obtain ⟨c, hc, hck⟩ := h3 i hi
  by_cases e : i = k
  · subst e
    exact ⟨_, row?_setRow_same w b _ 21 _ (by rw [hc]; rfl) (size_pc _), fun _ => rfl⟩
  · refine ⟨c, ?_, fun h => hck (by omega)⟩
    rw [row?_setRow, if_neg (by rw [size_pc]; omega)]
    exact hc
/-- The list of F's first n. -/
def lst (F : Nat → Fin 8) (n : Nat) : List (Fin 8) := (List.range n).map F
theorem length_lst (F : Nat → Fin 8) (n : Nat) : (lst F n).length = n := by simp [lst]
theorem get_lst (F : Nat → Fin 8) (n i : Nat) (h : i < (lst F n).length) : (lst F n)[i] = F i := by simp [lst]
theorem Part.lst {w : World} {b n N : Nat} {F : Nat → Fin 8} (h : Part w b n n F) (hN : b ≠ N) : Lst w N (some ⟨b, 0, none⟩) (lst F n) := fun i hi => by
  obtain ⟨h1, h2, h3⟩ := h
  rw [length_lst] at hi
  obtain ⟨c, hc, hk⟩ := h3 i hi
  refine ⟨b, 0, rfl, h1, hN, ?_⟩
  rw [Nat.zero_add, hc, hk hi, get_lst]
theorem Part.at {w : World} {b n k i : Nat} {F : Nat → Fin 8} (h : Part w b n k F) (hi : i < n) : (row? w b (i * 21) 21).isSome = true := by
  obtain ⟨c, hc, _⟩ := h.2.2 i hi
  rw [hc]; rfl
end Go.Proofs.Ybulkbsys
