/-
  TIDEWATCH: the map and the quota in memory (laws for the walks).
-/
import Derived.Test.YbulkbtaiMap
import Derived.Test.YbulkbtaiLocks
import Derived.Deep.QuietTactic
import Derived.Maps.OwnOps
namespace Go.Proofs.Ybulkbtai
open Go.RowKit Go.Maps Go.MuLone
set_option linter.unusedVariables false
set_option linter.unusedSimpArgs false
/-- Whatever is a cell of another block than Q stays as it is. -/
def Kept (Q : Nat) (w w' : World) : Prop := ∀ (a : Addr) (v : Value), a.block ≠ Q → w.cell? a = some v → w'.cell? a = some v ∧ w'.frozen? a = w.frozen? a
theorem Kept.refl (Q : Nat) (w : World) : Kept Q w w := fun _ _ _ h => ⟨h, rfl⟩
theorem Kept.trans {Q : Nat} {w w' w'' : World} (h : Kept Q w w') (h' : Kept Q w' w'') : Kept Q w w'' := fun a v hn hc => by
  obtain ⟨h1, h2⟩ := h a v hn hc
  obtain ⟨h3, h4⟩ := h' a v hn h1
  exact ⟨h3, h4.trans h2⟩
theorem Kept.setCell (Q : Nat) (w : World) (o : Nat) (u : Value) : Kept Q w (w.setCell ⟨Q, o, none⟩ u) := fun a v hn hc =>
  ⟨(World.cell?_setCell_other _ _ _ _ (by intro e; subst e; exact hn rfl)).trans hc, World.frozen?_setCell _ _ _ _⟩
theorem Kept.drewN (Q : Nat) (w : World) (n : Nat) : Kept Q w (w.drewN n) := fun _ _ _ h => ⟨h, rfl⟩
theorem Kept.alloc (Q : Nat) (w : World) (ob : Obj) : Kept Q w (w.alloc ob) := fun a v hn hc => by
  have hl : a.block < w.heap.size := by
    simp only [World.cell?] at hc
    cases hg : w.heap[a.block]? with
    | none => simp [hg] at hc
    | some o => exact (Array.getElem?_eq_some_iff.1 hg).1
  have he := Below.heap_alloc w ob a.block hl
  exact ⟨by simp only [World.cell?, he]; exact hc, by simp only [World.frozen?, he]⟩
theorem Kept.turned (Q : Nat) {w w' : World} {b : Nat} (h : w.mapTurned w' b) : Kept Q w w' := fun a v hn hc => by
  refine ⟨?_, h.frozen a⟩
  have hb : a.block ≠ b := by
    rintro rfl
    obtain ⟨es, clock, es', clock', hm, rfl⟩ := h
    simp [World.cell?, hm] at hc
  have hg := h.grown
  have hl : a.block < w.heap.size := by
    simp only [World.cell?] at hc
    cases hg : w.heap[a.block]? with
    | none => simp [hg] at hc
    | some o => exact (Array.getElem?_eq_some_iff.1 hg).1
  have he : w'.heap[a.block]? = w.heap[a.block]? := hg.block a.block hl (by simp; omega)
  simp only [World.cell?, he]
  exact hc
/-- Block b is a map that agrees with the model; at most n entries were laid into it. -/
def Mp (w : World) (b n : Nat) (m : Nat → Int) : Prop := ∃ D : DataW Unit, w.ownsMap Yba.prog 3 (plainElem Yba.prog 3) b n D ∧ Agree D m
theorem Mp.look {w : World} {b n : Nat} {m : Nat → Int} (h : Mp w b n m) {j : Nat} (hj : j < 8) : (Instr.lookup 31 (.map (some b)) (.int .i64 j) false).run Yba.prog w = .ok (.int .i64 (m j)) w := by
  obtain ⟨D, hown, ha⟩ := h
  obtain ⟨c, hrun, hat, _⟩ := hown.lookup_int law3 Yba.underlying31 Yba.underlying3 (zero3 _) (keyOf_key hj)
  rw [ha.at_ j hj] at hat
  simp only [DataW.lit.injEq, Lit.int.injEq, true_and] at hat
  rw [hat]
  exact hrun
theorem Mp.look_ok {w : World} {b n : Nat} {m : Nat → Int} (h : Mp w b n m) {j : Nat} (hj : j < 8) : (Instr.lookup 31 (.map (some b)) (.int .i64 j) true).run Yba.prog w = .ok (.tuple #[.int .i64 (m j), .bool (m j != 0)]) w := by
  obtain ⟨D, hown, ha⟩ := h
  obtain ⟨v, ps, hrun, hv⟩ := hown.look_ok law3 Yba.underlying31 (zero3 _) (plainElem_int Yba.underlying3 (wf_small (x := 0) (by omega) (by omega))) (keyOf_key hj)
  obtain ⟨c, rfl, hc, _⟩ := plainElem_int_inv Yba.underlying3 hv
  simp only [Prod.mk.injEq] at hc
  have hat := hc.1
  rw [ha.at_ j hj] at hat
  simp only [DataW.lit.injEq, Lit.int.injEq, true_and] at hat
  rw [← ha.has_ j hj, hat]
  exact hrun
theorem Mp.len {w : World} {b n : Nat} {m : Nat → Int} (h : Mp w b n m) (ty : TypeId) : (Builtin.len_ #[31] ty #[.map (some b)]).run Yba.prog w = .ok (.int .i64 (cntTo m 8)) w := by
  obtain ⟨D, hown, ha⟩ := h
  rw [← ha.size_]
  exact hown.len Yba.underlying31 ty
theorem Mp.store {w : World} {b n : Nat} {m : Nat → Int} (h : Mp w b n m) {j : Nat} (hj : j < 8) {v : Int} (hv : v ≠ 0) (v0 : -1000 ≤ v) (v1 : v ≤ 1000) (hn : n < 100000) :
    ∃ w', (Instr.mapUpdate 31 (.map (some b)) (.int .i64 j) (.int .i64 v)).run Yba.prog w = .ok () w' ∧ Mp w' b (n + 1) (upd m j v) ∧ w.mapTurned w' b := by
  obtain ⟨D, hown, ha⟩ := h
  obtain ⟨w', hrun, h1, h2⟩ := hown.store law3 Yba.underlying31 (by unfold maxLen; omega) (keyOf_key hj) (plainElem_int Yba.underlying3 (wf_small (x := v) (by omega) (by omega)))
  exact ⟨w', hrun, ⟨_, h1, ha.put hj hv⟩, h2⟩
/-- The last of a key is given back: stored as nought, seen as nought, struck. -/
theorem Mp.strike {w : World} {b n : Nat} {m : Nat → Int} (h : Mp w b n m) {j : Nat} (hj : j < 8) (hm : m j ≠ 0) (hn : n < 100000) :
    ∃ w1 w2, (Instr.mapUpdate 31 (.map (some b)) (.int .i64 j) (.int .i64 0)).run Yba.prog w = .ok () w1 ∧ w.mapTurned w1 b ∧ (Instr.lookup 31 (.map (some b)) (.int .i64 j) false).run Yba.prog w1 = .ok (.int .i64 0) w1 ∧
      (∀ ty, (Builtin.delete_ #[31, 3] ty #[.map (some b), .int .i64 j]).run Yba.prog w1 = .ok (.tuple #[]) w2) ∧ Mp w2 b (n + 1) (upd m j 0) ∧ w1.mapTurned w2 b := by
  obtain ⟨D, hown, ha⟩ := h
  obtain ⟨w1, hrun, h1, h2⟩ := hown.store law3 Yba.underlying31 (by unfold maxLen; omega) (keyOf_key hj) (plainElem_int Yba.underlying3 (wf_small (x := 0) (by omega) (by omega)))
  obtain ⟨c, hrun2, hat, _⟩ := h1.lookup_int law3 Yba.underlying31 Yba.underlying3 (zero3 _) (keyOf_key hj)
  rw [atKey_put_same ha.tidy.isMap (isKey j)] at hat
  simp only [DataW.lit.injEq, Lit.int.injEq, true_and] at hat
  subst hat
  obtain ⟨w2, hrun3, h3, h4⟩ := h1.drop law3 Yba.underlying31 (keyOf_key hj) 0
  refine ⟨w1, w2, hrun, h2, hrun2, fun ty => ?_, ⟨_, h3, ha.strike hj _ hm⟩, h4⟩
  exact hrun3
theorem Mp.kept {w w' : World} {b n : Nat} {m : Nat → Int} (h : Mp w b n m) {row : Option Nat} (hg : w.grownBy w' row) (hne : some b ≠ row) : Mp w' b n m := by
  obtain ⟨D, hown, ha⟩ := h
  exact ⟨D, hown.kept hg hne, ha⟩
theorem Mp.setCell {w : World} {b n : Nat} {m : Nat → Int} (h : Mp w b n m) {a : Addr} (ha : b ≠ a.block) (u : Value) : Mp (w.setCell a u) b n m := by
  obtain ⟨D, hown, hA⟩ := h
  exact ⟨D, hown.setCell ha u, hA⟩
theorem Mp.drewN {w : World} {b n : Nat} {m : Nat → Int} (h : Mp w b n m) (k : Nat) : Mp (w.drewN k) b n m := h
theorem Mp.mono {w : World} {b n n' : Nat} {m : Nat → Int} (h : Mp w b n m) (hn : n ≤ n') : Mp w b n' m := by
  obtain ⟨D, hown, hA⟩ := h
  exact ⟨D, hown.mono hn, hA⟩
theorem Mp.made (w : World) {m : Nat → Int} (h : ∀ j, j < 8 → m j = 0) : Mp (w.alloc (.map #[] 0)) w.heap.size 0 m := ⟨_, World.ownsMap_made _ _ _ _, agree_empty h⟩
theorem Mp.ne {w : World} {b n : Nat} {m : Nat → Int} (h : Mp w b n m) {Q o : Nat} {v : Value} (hc : w.cell? ⟨Q, o, none⟩ = some v) : b ≠ Q := by
  rintro rfl
  obtain ⟨D, ⟨es, clock, hm, _⟩, _⟩ := h
  simp [World.cell?, hm] at hc
/-- The quota's cells: its limit, its lock free, its map. -/
structure Qc (w : World) (Q : Nat) (lim : Int) (v : Value) : Prop where
  c0 : w.cell? ⟨Q, 0, none⟩ = some (.int .i64 lim)
  c1 : w.cell? ⟨Q, 1, none⟩ = some (.int .i32 0)
  c3 : w.cell? ⟨Q, 3, none⟩ = some v
  f1 : w.frozen? ⟨Q, 1, none⟩ = false
  f3 : w.frozen? ⟨Q, 3, none⟩ = false
theorem below_turned {B b : Nat} {w w' w0 : World} (h : Below B w0 w) (ht : w.mapTurned w' b) (hb : B ≤ b) (hs : B ≤ w.heap.size) : Below B w0 w' :=
  h.grown ht.grown hs (fun j hj => by cases hj; exact hb)
theorem below_dN {B : Nat} {w w' : World} (h : Below B w w') (n : Nat) : Below B w (w'.drewN n) := ⟨h.os, h.tape, h.output, h.size, h.block⟩
end Go.Proofs.Ybulkbtai
