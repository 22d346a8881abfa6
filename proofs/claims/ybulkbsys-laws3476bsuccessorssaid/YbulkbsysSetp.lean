/-
  RINGHOP: (*Node).setPredecessorLocked.
-/
import Derived.Test.YbulkbsysPlist
namespace Go.Proofs.Ybulkbsys
open Go.RowKit
attribute [local go_sem ↓] ld27 ld25 ld51 st27 st51 al27 al51 bx27 bx51 bx49 bd25 bd27 bd51 bd49 eq27 ne27 eq25 eg27 eg25 pc_addr dpc_pred dpc_rec
attribute [local go_sem] run_ld27 run_ld25 run_ld51 ldOut_some stOut_true run_st27 run_st51 run_al27 run_al51 run_bxRow run_bd25 run_bd27 run_bd51 run_bd51b run_eg27e run_eg27n run_eg25e run_eq27 run_ne27 run_eq25 ad_beq ad_bne ad_fold
attribute [local go_sem] row?_drew loose_drew row?_alloc_past loose_alloc_past row?_alloc_at loose_alloc_at size_setRow loose_setRow loose_setCell row?_setRow_same row?_setRow cell?_setRow frozen?_setRow row?_setCell setRow_drew setRow_alloc_past setRow_alloc_at
attribute [local go_sem] size_pc size_idc size_z27 size_z51 size_dpc single_pc single_z27 single_dpc dpc_node dpc_succ dpc_all pc_id pc_all pc_pop
attribute [local go_sem] row?_drewN loose_drewN alloc_drewN setCell_drewN setRow_drewN
attribute [local go_sem] cell?_alloc_ite newCell_cells frozen?_alloc_ite' row?_alloc_ite newRow?_cells loose_alloc_ite setCell_alloc_ite setNew_cells setRow_alloc_ite layNew_cells
theorem block_row {w : World} {g : Nat} {t : Fin 8} (h : w.heap[g]? = some (.cells (pc t) 27)) : row? w g 0 21 = some (pc t) := by
  unfold row?
  rw [h]
  simp only [size_pc, Nat.zero_add, Nat.le_refl, if_true]
  exact congrArg some (pc_all t)
/-! ### Ranging over the empty map -/
def rgRow (v : Value) : Sem Value := Instr.range 42 v
theorem rg42 (v : Value) : Instr.range 42 v = rgRow v := rfl
def nxRow (it : Value) (ty : TypeId) : Sem Value := Instr.next it false ty
theorem nx42 (it : Value) (ty : TypeId) : Instr.next it false ty = nxRow it ty := rfl
theorem run_rg42 (w : World) (m : Nat) (h : w.heap[m]? = some (.map #[] 0)) : (rgRow (.map (some m))).run Yba.prog w = .ok (.pointer (some ⟨w.heap.size, 0, none⟩)) (w.alloc (.mapIter (some m) 0 #[] 0)) := by
  simp [rgRow, Instr.range, run_underlying Yba.underlying42, getObj, Sem.run, h, newObj]
theorem run_nx (W : World) (r m : Nat) (ty : TypeId) (h1 : W.heap[r]? = some (.mapIter (some m) 0 #[] 0)) (h2 : W.heap[m]? = some (.map #[] 0)) : (nxRow (.pointer (some ⟨r, 0, none⟩)) ty).run Yba.prog W = .ok (.tuple #[.bool false]) W := by
  simp [nxRow, Instr.next, getObj, Sem.run, h1, h2, choose, Question.forced]
theorem run_nx42 (w : World) (m : Nat) (ty : TypeId) (b : Nat) (hb : b = w.heap.size) (h : w.heap[m]? = some (.map #[] 0)) : (nxRow (.pointer (some ⟨b, 0, none⟩)) ty).run Yba.prog (w.alloc (.mapIter (some m) 0 #[] 0)) = .ok (.tuple #[.bool false]) (w.alloc (.mapIter (some m) 0 #[] 0)) := by
  subst hb
  exact run_nx _ _ m ty (heap_alloc_new w _) ((Below.heap_alloc _ _ _ (Array.getElem?_eq_some_iff.1 h).1).trans h)
attribute [local go_sem ↓] rg42 nx42
attribute [local go_sem] run_rg42 run_nx42

set_option maxRecDepth 100000 in
set_option maxHeartbeats 1000000 in
theorem setp_nil (w : World) (N : Nat) (q : NS) (h : Nd w N q) :
    Calls Yba.prog 15 #[.pointer (some ⟨N, 0, none⟩), .pointer none] w fun e w' => e = .returned (.tuple #[]) ∧ Turn N w w' ∧ Nd w' N { q with pd := .pointer none, pl := .slice none 0 0, un := 5 } := by
  have cp := h.pd
  have cl := h.pl
  have cu := h.un
  have fr := h.frozen
  go_enter Yba.func15, Yba.ntmps15
  go_wp2
  exact bodyPost_ret (results_none rfl _ _ _) rfl ⟨rfl, (((Turn.refl _ _).setCell _ _).setCell _ _).setCell _ _, ((h.setPd _).setPl _).setUn _⟩

theorem plist_any (w : World) (N : Nat) (q : NS) (t : Fin 8) (h : Nd w N q) (hmx : 0 ≤ q.mx) (ht : t = q.s ∨ q.rp = 3) :
    Calls Yba.prog 21 #[.pointer (some ⟨N, 0, none⟩), .agg (pc t), .slice none 0 0] w fun e w' => (∃ a n c, e = .returned (.slice a n c)) ∧ Below w.heap.size w w' := by
  by_cases e : t = q.s
  · subst e
    exact (plist_same w N q h hmx).mono fun e w' ⟨h1, h2⟩ => ⟨⟨_, _, _, h1⟩, h2⟩
  · exact plist_other w N q t h hmx (ht.resolve_left e) (by simpa using e)

set_option maxRecDepth 100000 in
set_option maxHeartbeats 1000000 in
theorem setp_some (w : World) (N : Nat) (q : NS) (t : Fin 8) (b o : Nat) (h : Nd w N q) (hmx : 0 ≤ q.mx) (ht : t = q.s ∨ q.rp = 3) (hb : row? w b o 21 = some (pc t)) (hbN : b ≠ N) :
    Calls Yba.prog 15 #[.pointer (some ⟨N, 0, none⟩), .pointer (some ⟨b, o, none⟩)] w fun e w' => e = .returned (.tuple #[]) ∧ Turn N w w' ∧ ∃ g pl, Nd w' N { q with pd := .pointer (some ⟨g, 0, none⟩), pl := pl, un := 5 } ∧ w.heap.size ≤ g ∧ w'.heap[g]? = some (.cells (pc t) 27) := by
  have cp := h.pd
  have cl := h.pl
  have cu := h.un
  have fr := h.frozen
  have hN := h.lt
  have hblt := row?_lt hb
  have H1 : Hid (Nd ((((w.setCell ⟨N, 3398, none⟩ (.pointer none)).setCell ⟨N, 3399, none⟩ (.slice none 0 0)).setCell ⟨N, 3400, none⟩ (.int .i64 5)).alloc (.cells (pc t) 27)) N { q with pd := .pointer none, pl := .slice none 0 0, un := 5 }) := (((h.setPd _).setPl _).setUn _).alloc _
  go_enter Yba.func15, Yba.ntmps15
  go_wp2_with fail
  refine (plist_any _ N _ t H1.out hmx ht).mono ?_
  rintro e w1 ⟨⟨a, n, c, rfl⟩, hb1⟩
  have hn1 := H1.out.grown hb1
  have dp := hn1.pd
  have dl := hn1.pl
  have dv := hn1.vals
  have df := hn1.frozen
  have hg0 : w1.heap[w.heap.size]? = some (.cells (pc t) 27) := by
    rw [hb1.block w.heap.size (by simp)]
    have := heap_alloc_new (((w.setCell ⟨N, 3398, none⟩ (.pointer none)).setCell ⟨N, 3399, none⟩ (.slice none 0 0)).setCell ⟨N, 3400, none⟩ (.int .i64 5)) (.cells (pc t) 27)
    simpa using this
  have hg1 : row? w1 w.heap.size 0 21 = some (pc t) := block_row hg0
  have Hg0 : Hid (w1.heap[w.heap.size]? = some (.cells (pc t) 27)) := hg0
  clear hg0
  have hz1 : w.heap.size < w1.heap.size := by have := hb1.size; simp at this; omega
  have dm := hn1.map
  simp only at dp dl dv dm
  have ht1 : Hid (Turn N w w1) := Turn.trans ((((Turn.refl _ _).setCell _ _).setCell _ _).setCell _ _) ((Turn.refl _ _).alloc _ |>.trans (.of_below hb1))
  have hne : q.M ≠ N := h.ne
  have hWm : ((w1.setCell ⟨N, 3398, none⟩ (.pointer (some ⟨w.heap.size, 0, none⟩))).setCell ⟨N, 3399, none⟩ (.slice a n c)).heap[q.M]? = some (.map #[] 0) := by
    rw [Below.heap_setCell _ _ _ _ hne, Below.heap_setCell _ _ _ _ hne]; exact dm
  clear hb1
  go_wp2
  refine wp_loop_once ?_
  go_wp2
  go_end0
  refine ⟨rfl, ((ht1.out.setCell _ _).setCell _ _).alloc _, w.heap.size, .slice a n c, ((hn1.setPd _).setPl _).alloc _, Nat.le_refl _, ?_⟩
  rw [Below.heap_alloc _ _ _ (by simpa [World.setCell] using hz1), Below.heap_setCell _ _ _ _ (show w.heap.size ≠ N by omega), Below.heap_setCell _ _ _ _ (show w.heap.size ≠ N by omega)]
  exact Hg0.out
end Go.Proofs.Ybulkbsys
