/-
  TIDEWATCH: take, give and check under one word on the map; the model's array.
-/
import Derived.Test.YbulkbtaiCheck
namespace Go.Proofs.Ybulkbtai
open Go.RowKit Go.Maps Go.MuLone
set_option linter.unusedVariables false
set_option linter.unusedSimpArgs false
/-- What the quota's map holds: it is nil and nothing is held, or it is a map that agrees with the model. -/
def Held (w : World) (B : Nat) (v : Value) (n : Nat) (m : Nat → Int) : Prop := (v = .map none ∧ ∀ j, j < 8 → m j = 0) ∨ ∃ b, v = .map (some b) ∧ B ≤ b ∧ Mp w b n m
theorem Held.mono {w : World} {B : Nat} {v : Value} {n n' : Nat} {m : Nat → Int} (h : Held w B v n m) (hn : n ≤ n') : Held w B v n' m :=
  h.imp id (fun ⟨b, h1, h2, h3⟩ => ⟨b, h1, h2, h3.mono hn⟩)
theorem Held.setCell {w : World} {B : Nat} {v : Value} {n : Nat} {m : Nat → Int} (h : Held w B v n m) {M o : Nat} {x : Value} (hc : w.cell? ⟨M, o, none⟩ = some x) (u : Value) : Held (w.setCell ⟨M, o, none⟩ u) B v n m :=
  h.imp id (fun ⟨b, h1, h2, h3⟩ => ⟨b, h1, h2, h3.setCell (a := ⟨M, o, none⟩) (h3.ne hc) u⟩)
theorem Held.look {w : World} {B : Nat} {v : Value} {n : Nat} {m : Nat → Int} (h : Held w B v n m) (j : Nat) (hj : j < 8) : (Instr.lookup 31 v (.int .i64 j) true).run Yba.prog w = .ok (.tuple #[.int .i64 (m j), .bool (m j != 0)]) w := by
  rcases h with ⟨rfl, hz⟩ | ⟨b, rfl, _, hM⟩
  · rw [hz j hj]
    exact look_nil (w := w) true law3 Yba.underlying31 (zero3 _) (keyOf_key hj)
  · exact hM.look_ok hj
theorem Held.len {w : World} {B : Nat} {v : Value} {n : Nat} {m : Nat → Int} (h : Held w B v n m) (ty : TypeId) : (Builtin.len_ #[31] ty #[v]).run Yba.prog w = .ok (.int .i64 (cntTo m 8)) w := by
  rcases h with ⟨rfl, hz⟩ | ⟨b, rfl, _, hM⟩
  · rw [cntTo_zero m 8 hz]
    exact len_nil (w := w) Yba.underlying31 ty
  · exact hM.len ty
theorem take_any (w : World) (B Q : Nat) (lim : Int) (v : Value) (n : Nat) (m : Nat → Int) (j : Nat) (h : Qc w Q lim v) (hh : Held w B v n m) (hj : j < 8) (m0 : 0 ≤ m j) (m1 : m j ≤ 500) (l0 : 0 ≤ lim) (l1 : lim ≤ 500) (hn : n < 100000) (hB : B ≤ Q) :
    Calls Yba.prog 4 #[.pointer (some ⟨Q, 0, none⟩), .int .i64 j] w fun e w' => e = .returned (.bool (decide (m j < lim))) ∧ (∃ v', Qc w' Q lim v' ∧ Held w' B v' (n + 1) (if m j < lim then upd m j (m j + 1) else m)) ∧ Kept Q w w' ∧ Below B w w' := by
  rcases hh with ⟨rfl, hz⟩ | ⟨b, rfl, hb, hM⟩
  · refine (take_nil w B Q lim m j h hz hj l0 l1 hB).mono ?_
    rintro e w' ⟨rfl, h1, h2, h3⟩
    rw [hz j hj]
    refine ⟨rfl, ?_, h2, h3⟩
    by_cases hl : 0 < lim
    · rw [if_pos hl] at h1 ⊢
      obtain ⟨b, g1, g2, g3⟩ := h1
      exact ⟨_, g1, .inr ⟨b, rfl, g2, g3.mono (by omega)⟩⟩
    · rw [if_neg hl] at h1 ⊢
      exact ⟨_, h1, .inl ⟨rfl, hz⟩⟩
  · refine (take_some w B Q lim b n m j h hM hj m0 m1 l0 l1 hn hB hb).mono ?_
    rintro e w' ⟨rfl, h1, h2, h3, h4⟩
    exact ⟨rfl, ⟨_, h1, .inr ⟨b, rfl, hb, h2⟩⟩, h3, h4⟩
theorem give_any (w : World) (B Q : Nat) (lim : Int) (v : Value) (n : Nat) (m : Nat → Int) (j : Nat) (h : Qc w Q lim v) (hh : Held w B v n m) (hj : j < 8) (m0 : 1 ≤ m j) (m1 : m j ≤ 500) (hn : n < 100000) (hB : B ≤ Q) :
    Calls Yba.prog 5 #[.pointer (some ⟨Q, 0, none⟩), .int .i64 j] w fun e w' => e = .returned (.tuple #[]) ∧ (∃ v', Qc w' Q lim v' ∧ Held w' B v' (n + 1) (upd m j (m j - 1))) ∧ Kept Q w w' ∧ Below B w w' := by
  rcases hh with ⟨rfl, hz⟩ | ⟨b, rfl, hb, hM⟩
  · have := hz j hj; omega
  · refine (give_some w B Q lim b n m j h hM hj m0 m1 hn hB hb).mono ?_
    rintro e w' ⟨rfl, h1, h2, h3, h4⟩
    exact ⟨rfl, ⟨_, h1, .inr ⟨b, rfl, hb, h2⟩⟩, h3, h4⟩
/-- Block M is the model's array. -/
def Md (w : World) (M : Nat) (m : Nat → Int) : Prop := ∀ j, j < 8 → w.cell? ⟨M, j, none⟩ = some (.int .i64 (m j)) ∧ w.frozen? ⟨M, j, none⟩ = false
theorem Md.kept {w w' : World} {M Q : Nat} {m : Nat → Int} (h : Md w M m) (hk : Kept Q w w') (hne : M ≠ Q) : Md w' M m := fun j hj => by
  obtain ⟨h1, h2⟩ := h j hj
  obtain ⟨h3, h4⟩ := hk _ _ hne h1
  exact ⟨h3, h4.trans h2⟩
theorem Md.set {w : World} {M : Nat} {m : Nat → Int} (h : Md w M m) {j : Nat} (hj : j < 8) (v : Int) : Md (w.setCell ⟨M, j, none⟩ (.int .i64 v)) M (upd m j v) := fun i hi => by
  refine ⟨?_, (World.frozen?_setCell _ _ _ _).trans (h i hi).2⟩
  by_cases e : i = j
  · subst e; rw [upd_same]; exact World.cell?_setCell_same _ _ _ (h i hi).1
  · rw [upd_other m v e]; exact (World.cell?_setCell_other _ _ _ _ (fun x => e (congrArg Addr.off x).symm)).trans (h i hi).1
theorem Qc.setCell {w : World} {Q : Nat} {lim : Int} {v : Value} (h : Qc w Q lim v) {M o : Nat} (hne : M ≠ Q) (u : Value) : Qc (w.setCell ⟨M, o, none⟩ u) Q lim v :=
  ⟨(World.cell?_setCell_other _ _ _ _ (by simp [hne])).trans h.c0, (World.cell?_setCell_other _ _ _ _ (by simp [hne])).trans h.c1, (World.cell?_setCell_other _ _ _ _ (by simp [hne])).trans h.c3, (World.frozen?_setCell _ _ _ _).trans h.f1, (World.frozen?_setCell _ _ _ _).trans h.f3⟩
theorem upd_self (m : Nat → Int) (j : Nat) : upd m j (m j) = m := by funext i; simp only [upd]; split <;> simp_all
theorem upd_bounds {m : Nat → Int} {lim : Int} (h : ∀ j, j < 8 → 0 ≤ m j ∧ m j ≤ lim) {j : Nat} {v : Int} (h0 : 0 ≤ v) (h1 : v ≤ lim) : ∀ i, i < 8 → 0 ≤ upd m j v i ∧ upd m j v i ≤ lim := fun i hi => by
  simp only [upd]
  split
  · exact ⟨h0, h1⟩
  · exact h i hi
theorem two_blocks (w : World) (x y : Array Value) (s t : TypeId) : (∀ i, ((w.alloc (.cells x s)).alloc (.cells y t)).cell? ⟨w.heap.size, i, none⟩ = x[i]? ∧ ((w.alloc (.cells x s)).alloc (.cells y t)).frozen? ⟨w.heap.size, i, none⟩ = false) ∧ ∀ i, ((w.alloc (.cells x s)).alloc (.cells y t)).cell? ⟨w.heap.size + 1, i, none⟩ = y[i]? ∧ ((w.alloc (.cells x s)).alloc (.cells y t)).frozen? ⟨w.heap.size + 1, i, none⟩ = false := by
  have h1 := heap_alloc_new w (.cells x s)
  have h2 := heap_alloc_new (w.alloc (.cells x s)) (.cells y t)
  rw [World.size_alloc] at h2
  have h3 : ((w.alloc (.cells x s)).alloc (.cells y t)).heap[w.heap.size]? = some (.cells x s) := by rw [Below.heap_alloc _ _ _ (by simp only [World.size_alloc]; omega)]; exact h1
  refine ⟨fun i => ⟨by simp only [World.cell?, h3]; rfl, by simp only [World.frozen?, h3]; simp⟩, fun i => ⟨by simp only [World.cell?, h2]; rfl, by simp only [World.frozen?, h2]; simp⟩⟩
end Go.Proofs.Ybulkbtai
