/-
  RINGHOP: slices of peers that are read; the plain functions on lists of peers.
-/
import Derived.Test.YbulkbsysRowOf
namespace Go.Proofs.Ybulkbsys
open Go.RowKit

/-- The slice at 'a' holds the peers ts, in a block that is not N. -/
def Lst (w : World) (N : Nat) (a : Option Addr) (ts : List (Fin 8)) : Prop :=
  ∀ i (hi : i < ts.length), ∃ g o, a = some ⟨g, o, none⟩ ∧ g < w.heap.size ∧ g ≠ N ∧ row? w g (o + i * 21) 21 = some (pc ts[i])
theorem Lst.below {w w' : World} {N B : Nat} {a : Option Addr} {ts : List (Fin 8)} (h : Lst w N a ts) (hb : Below B w w') (hB : w.heap.size ≤ B) : Lst w' N a ts := fun i hi => by
  obtain ⟨g, o, ha, hg, hn, hr⟩ := h i hi
  exact ⟨g, o, ha, Nat.lt_of_lt_of_le hg hb.size, hn, (row?_of_block (hb.block g (by omega)) _ _).trans hr⟩
theorem Lst.turn {w w' : World} {N : Nat} {a : Option Addr} {ts : List (Fin 8)} (h : Lst w N a ts) (ht : Turn N w w') : Lst w' N a ts := fun i hi => by
  obtain ⟨g, o, ha, hg, hn, hr⟩ := h i hi
  exact ⟨g, o, ha, Nat.lt_of_lt_of_le hg ht.size, hn, (ht.row hg hn _ _).trans hr⟩
theorem Lst.nil (w : World) (N : Nat) (a : Option Addr) : Lst w N a [] := fun i hi => by simp at hi
/-- What the call has built is such a slice. -/
theorem Own.lst {w : World} {base N : Nat} {v : Value} {ts : List (Fin 8)} (h : Own w base v ts) (hN : N < base) : ∃ a cap, v = .slice a ts.length cap ∧ Lst w N a ts := by
  rcases h.2 with ⟨h0, hl⟩ | ⟨g, cap, cur, hv, hb, hh, _, _, _, _⟩
  · have : ts = [] := List.length_eq_zero_iff.1 hl
    subst this
    exact ⟨none, 0, h0, Lst.nil _ _ _⟩
  · subst hv
    refine ⟨_, cap, rfl, fun i hi => ?_⟩
    obtain ⟨_, _, hlt, hr⟩ := h.at hi
    exact ⟨g, 0, rfl, hlt, by omega, by rw [Nat.zero_add]; exact hr⟩
theorem Own.lst_at {w : World} {base N : Nat} {a : Option Addr} {n cap : Nat} {ts : List (Fin 8)} (h : Own w base (.slice a n cap) ts) (hN : N < base) : Lst w N a ts := by
  obtain ⟨a', cap', hv, hl⟩ := h.lst hN
  simp only [Value.slice.injEq] at hv
  rw [hv.1]
  exact hl
theorem own_one (w : World) (base : Nat) (p : Fin 8) (hb : base ≤ w.heap.size) : Own (w.alloc (.cells (pc p) 27)) base (.slice (some ⟨w.heap.size, 0, none⟩) 1 1) [p] := by
  refine ⟨by rw [length_cellsOf], .inr ⟨w.heap.size, 1, pc p, rfl, hb, heap_alloc_new w _, by simp, by unfold maxLen; omega, by rw [size_pc], ?_⟩⟩
  rw [cellsOf_one, List.take_of_length_le (by simp [size_pc])]
theorem Own.mono {w : World} {base base' : Nat} {v : Value} {ts : List (Fin 8)} (h : Own w base v ts) (hb : base' ≤ base) : Own w base' v ts := by
  obtain ⟨h1, h2⟩ := h
  refine ⟨h1, ?_⟩
  rcases h2 with h2 | ⟨g, cap, cur, hv, hg, r⟩
  · exact .inl h2
  · exact .inr ⟨g, cap, cur, hv, by omega, r⟩
theorem Own.below {w w' : World} {base B : Nat} {v : Value} {ts : List (Fin 8)} (h : Own w base v ts) (hb : Below B w w') (hB : w.heap.size ≤ B) : Own w' base v ts := by
  obtain ⟨h1, h2⟩ := h
  refine ⟨h1, ?_⟩
  rcases h2 with h2 | ⟨g, cap, cur, hv, hg, hh, r⟩
  · exact .inl h2
  · exact .inr ⟨g, cap, cur, hv, hg, by rw [hb.block g (Nat.lt_of_lt_of_le (Array.getElem?_eq_some_iff.1 hh).1 hB)]; exact hh, r⟩
theorem Own.turn {w w' : World} {base N : Nat} {v : Value} {ts : List (Fin 8)} (h : Own w base v ts) (ht : Turn N w w') (hN : N < base) : Own w' base v ts := by
  obtain ⟨h1, h2⟩ := h
  refine ⟨h1, ?_⟩
  rcases h2 with h2 | ⟨g, cap, cur, hv, hg, hh, r⟩
  · exact .inl h2
  · exact .inr ⟨g, cap, cur, hv, hg, by rw [ht.block g (Array.getElem?_eq_some_iff.1 hh).1 (by omega)]; exact hh, r⟩
/-- Behind an append onto such a slice nothing older than 'base' has turned. -/
theorem Own.grown {w w' a : World} {base : Nat} {v : Value} {ts : List (Fin 8)} (h : Own w base v ts) (hg : w.grownBy w' v.ownBlock) (hb : Below base a w) (hB : base ≤ w.heap.size) : Below base a w' := by
  refine hb.grown hg hB fun k hk => ?_
  rcases h.2 with ⟨h0, _⟩ | ⟨g, cap, cur, hv, hge, _⟩
  · rw [h0] at hk; cases hk
  · rw [hv] at hk
    simp only [Value.ownBlock, Option.some.injEq] at hk
    omega
/-- The rest of such a slice. -/
theorem Lst.tail {w : World} {N : Nat} {g o : Nat} {t : Fin 8} {ts : List (Fin 8)} (h : Lst w N (some ⟨g, o, none⟩) (t :: ts)) : Lst w N (some ⟨g, o + 21, none⟩) ts := fun i hi => by
  obtain ⟨g', o', ha, hg, hn, hr⟩ := h (i + 1) (by simpa using hi)
  simp only [Option.some.injEq, Addr.mk.injEq, and_true] at ha
  obtain ⟨rfl, rfl⟩ := ha
  exact ⟨_, _, rfl, hg, hn, by rw [show o + 21 + i * 21 = o + (i + 1) * 21 from by omega]; simpa using hr⟩

/-! ### Plain functions -/
/-- Is p among xs? (A name that the walk does not open.) -/
def has (xs : List (Fin 8)) (p : Fin 8) : Bool := xs.contains p
/-- The copy holders: acc, then of the peers to come the first of each but s, up to r - 1. -/
def holds (s : Fin 8) (r : Int) (acc : List (Fin 8)) : List (Fin 8) → List (Fin 8)
  | [] => acc
  | p :: ps => if (acc.length : Int) = r - 1 then acc else if p = s then holds s r acc ps else if has acc p = true then holds s r acc ps else holds s r (acc ++ [p]) ps
/-- The successor list: acc, then the peers to come up to s, a repeated one, or mx of them. -/
def succs (s : Fin 8) (mx : Int) (acc : List (Fin 8)) : List (Fin 8) → List (Fin 8)
  | [] => acc
  | p :: ps => if p = s then acc else if has acc p = true then acc else if mx ≤ (acc.length : Int) then acc else succs s mx (acc ++ [p]) ps
theorem holds_stop {s : Fin 8} {r : Int} {acc xs : List (Fin 8)} {k : Nat} (h : (acc.length : Int) = r - 1) : holds s r acc (xs.drop k) = acc := by
  cases hd : xs.drop k with
  | nil => rfl
  | cons p ps => unfold holds; rw [if_pos h]
theorem holds_self {s : Fin 8} {r : Int} {acc xs : List (Fin 8)} {k : Nat} (hk : k < xs.length) (h : ¬ (acc.length : Int) = r - 1) (h2 : xs[k] = s) : holds s r acc (xs.drop k) = holds s r acc (xs.drop (k + 1)) := by
  rw [List.drop_eq_getElem_cons hk]
  conv => lhs; unfold holds
  rw [if_neg h, if_pos h2]
theorem holds_dup {s : Fin 8} {r : Int} {acc xs : List (Fin 8)} {k : Nat} (hk : k < xs.length) (h : ¬ (acc.length : Int) = r - 1) (h2 : has acc xs[k] = true) : holds s r acc (xs.drop k) = holds s r acc (xs.drop (k + 1)) := by
  rw [List.drop_eq_getElem_cons hk]
  conv => lhs; unfold holds
  rw [if_neg h]
  split <;> rfl
theorem holds_new {s : Fin 8} {r : Int} {acc xs : List (Fin 8)} {k : Nat} (hk : k < xs.length) (h : ¬ (acc.length : Int) = r - 1) (h1 : ¬ xs[k] = s) (h2 : has acc xs[k] = false) : holds s r acc (xs.drop k) = holds s r (acc ++ [xs[k]]) (xs.drop (k + 1)) := by
  rw [List.drop_eq_getElem_cons hk]
  conv => lhs; unfold holds
  rw [if_neg h, if_neg h1, if_neg (by rw [h2]; decide)]
theorem succs_self {s : Fin 8} {mx : Int} {acc xs : List (Fin 8)} {k : Nat} (hk : k < xs.length) (h : xs[k] = s) : succs s mx acc (xs.drop k) = acc := by
  rw [List.drop_eq_getElem_cons hk]
  unfold succs
  rw [if_pos h]
theorem succs_dup {s : Fin 8} {mx : Int} {acc xs : List (Fin 8)} {k : Nat} (hk : k < xs.length) (h : has acc xs[k] = true) : succs s mx acc (xs.drop k) = acc := by
  rw [List.drop_eq_getElem_cons hk]
  unfold succs
  split <;> rfl
theorem succs_full {s : Fin 8} {mx : Int} {acc xs : List (Fin 8)} {k : Nat} (hk : k < xs.length) (h : mx ≤ (acc.length : Int)) : succs s mx acc (xs.drop k) = acc := by
  rw [List.drop_eq_getElem_cons hk]
  unfold succs
  split
  · rfl
  · split <;> rfl
theorem succs_new {s : Fin 8} {mx : Int} {acc xs : List (Fin 8)} {k : Nat} (hk : k < xs.length) (h1 : ¬ xs[k] = s) (h2 : has acc xs[k] = false) (h3 : ¬ mx ≤ (acc.length : Int)) : succs s mx acc (xs.drop k) = succs s mx (acc ++ [xs[k]]) (xs.drop (k + 1)) := by
  rw [List.drop_eq_getElem_cons hk]
  conv => lhs; unfold succs
  rw [if_neg h1, if_neg (by rw [h2]; decide), if_neg h3]
theorem length_holds (s : Fin 8) (r : Int) : ∀ (ps acc : List (Fin 8)), (holds s r acc ps).length ≤ acc.length + ps.length
  | [], acc => by simp [holds]
  | p :: ps, acc => by
    have h1 := length_holds s r ps acc
    have h2 := length_holds s r ps (acc ++ [p])
    simp only [List.length_append, List.length_cons, List.length_nil] at h2
    unfold holds
    simp only [List.length_cons]
    split
    · omega
    · split
      · omega
      · split <;> omega
theorem length_succs (s : Fin 8) (mx : Int) : ∀ (ps acc : List (Fin 8)), (succs s mx acc ps).length ≤ acc.length + ps.length
  | [], acc => by simp [succs]
  | p :: ps, acc => by
    have h2 := length_succs s mx ps (acc ++ [p])
    simp only [List.length_append, List.length_cons, List.length_nil] at h2
    unfold succs
    simp only [List.length_cons]
    split
    · omega
    · split
      · omega
      · split <;> omega
theorem take_contains_succ {ts : List (Fin 8)} {j : Nat} (hj : j < ts.length) (p : Fin 8) : has (ts.take (j + 1)) p = (has (ts.take j) p || (ts[j] == p)) := by
  unfold has
  rw [List.take_succ_eq_append_getElem hj, Bool.eq_iff_iff]
  simp only [List.contains_iff_mem, List.mem_append, List.mem_singleton, Bool.or_eq_true, beq_iff_eq]
  constructor
  · rintro (h | h)
    · exact .inl h
    · exact .inr h.symm
  · rintro (h | h)
    · exact .inl h
    · exact .inr h.symm
theorem take_beq_succ {xs ys : List (Fin 8)} {j : Nat} (ha : j < xs.length) (hb : j < ys.length) : (xs.take (j + 1) == ys.take (j + 1)) = ((xs.take j == ys.take j) && (xs[j] == ys[j])) := by
  rw [Bool.eq_iff_iff]
  simp only [beq_iff_eq, Bool.and_eq_true]
  rw [List.take_succ_eq_append_getElem ha, List.take_succ_eq_append_getElem hb]
  constructor
  · intro h
    have hl : (xs.take j).length = (ys.take j).length := by simp; omega
    have := List.append_inj h hl
    exact ⟨this.1, by simpa using this.2⟩
  · rintro ⟨h1, h2⟩
    rw [h1, h2]
end Go.Proofs.Ybulkbsys
