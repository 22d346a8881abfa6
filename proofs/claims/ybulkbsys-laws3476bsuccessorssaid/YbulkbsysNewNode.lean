/-
  RINGHOP: newNode.
-/
import Derived.Test.YbulkbsysSetp
import Derived.Test.YbulkbsysBuild
namespace Go.Proofs.Ybulkbsys
open Go.RowKit
attribute [local go_sem ↓] ld27 ld25 ld51 st27 st51 al27 al51 bx27 bx51 bx49 bd25 bd27 bd51 bd49 eq27 ne27 eq25 eg27 eg25 pc_addr dpc_pred dpc_rec
attribute [local go_sem] run_ld27 run_ld25 run_ld51 ldOut_some stOut_true run_st27 run_st51 run_al27 run_al51 run_bxRow run_bd25 run_bd27 run_bd51 run_bd51b run_eg27e run_eg27n run_eg25e run_eq27 run_ne27 run_eq25 ad_beq ad_bne ad_fold
attribute [local go_sem] row?_drew loose_drew row?_alloc_past loose_alloc_past row?_alloc_at loose_alloc_at size_setRow loose_setRow loose_setCell row?_setRow_same row?_setRow cell?_setRow frozen?_setRow row?_setCell setRow_drew setRow_alloc_past setRow_alloc_at
attribute [local go_sem] size_pc size_idc size_z27 size_z51 size_dpc single_pc single_z27 single_dpc dpc_node dpc_succ dpc_all pc_id pc_all pc_pop
attribute [local go_sem] row?_drewN loose_drewN alloc_drewN setCell_drewN setRow_drewN
attribute [local go_sem] cell?_alloc_ite newCell_cells frozen?_alloc_ite' row?_alloc_ite newRow?_cells loose_alloc_ite setCell_alloc_ite setNew_cells setRow_alloc_ite layNew_cells
/-- The node that newNode makes. -/
def NS.new (s : Fin 8) (mx rp : Int) (M : Nat) (pd pl : Value) : NS := { s := s, mx := mx, rp := rp, mu := 0, M := M, rc := true, sy := true, sc := .slice none 0 0, fg := fun _ => s, fw := 0, fi := 0, pd := pd, pl := pl, un := 5, dp := 0 }

theorem size_drew (w : World) : w.drew.heap.size = w.heap.size := rfl
theorem heap_drew (w : World) (k : Nat) : w.drew.heap[k]? = w.heap[k]? := rfl
/-- A node in the making: k of its fingers have been laid. -/
structure Raw (w : World) (N : Nat) (C : Array Value) (s : Fin 8) (k : Nat) : Prop where
  loose : loose w N = true
  cell : ∀ o, (o < 36 ∨ 3396 ≤ o) → w.cell? ⟨N, o, none⟩ = C[o]?
  self : row? w N 0 21 = some (pc s)
  fg : ∀ j, j < k → row? w N (36 + j * 21) 21 = some (pc s)
  there : ∀ j, j < 160 → (row? w N (36 + j * 21) 21).isSome = true
theorem Raw.start (w : World) (C : Array Value) (s : Fin 8) (hC : C.size = 3410) (hself : C.extract 0 21 = pc s) : Raw (w.alloc (.cells C 49)) w.heap.size C s 0 := by
  refine ⟨loose_alloc_at _ _ _ _ rfl, fun o _ => World.cell?_alloc_at C 49 _ o rfl, ?_, fun j hj => by omega, fun j hj => ?_⟩
  · rw [row?_alloc_at w _ _ _ _ _ rfl, if_pos (by omega)]; exact congrArg some hself
  · rw [row?_alloc_at w _ _ _ _ _ rfl, if_pos (by omega)]; rfl
theorem Raw.step {w : World} {N : Nat} {C : Array Value} {s : Fin 8} {k : Nat} (h : Raw w N C s k) (hk : k < 160) : Raw (setRow w N (36 + k * 21) (pc s)) N C s (k + 1) := by
  refine ⟨(loose_setRow _ _ _ _ _).trans h.loose, fun o ho => ?_, ?_, fun j hj => ?_, fun j hj => ?_⟩
  · rw [cell?_setRow, if_neg (by rw [size_pc]; omega)]; exact h.cell o ho
  · rw [row?_setRow, if_neg (by rw [size_pc]; omega)]; exact h.self
  · by_cases e : j = k
    · subst e; exact row?_setRow_same _ _ _ _ _ (h.there j hk) (size_pc s)
    · rw [row?_setRow, if_neg (by rw [size_pc]; omega)]; exact h.fg j (by omega)
  · by_cases e : j = k
    · subst e; rw [row?_setRow_same _ _ _ _ _ (h.there j hk) (size_pc s)]; rfl
    · rw [row?_setRow, if_neg (by rw [size_pc]; omega)]; exact h.there j hj
theorem Raw.drewN {w : World} {N : Nat} {C : Array Value} {s : Fin 8} {k : Nat} (h : Raw w N C s k) (n : Nat) : Raw (w.drewN n) N C s k := ⟨h.loose, h.cell, h.self, h.fg, h.there⟩
theorem Raw.drew {w : World} {N : Nat} {C : Array Value} {s : Fin 8} {k : Nat} (h : Raw w N C s k) : Raw w.drew N C s k := ⟨h.loose, h.cell, h.self, h.fg, h.there⟩
/-- The node, all fingers laid, before received and synced are set. -/
theorem Raw.done {w : World} {N M : Nat} {C : Array Value} {s : Fin 8} {mx rp : Int} (h : Raw w N C s 160) (hm : w.heap[M]? = some (.map #[] 0))
    (hsift : sift C = [some (.int .i64 mx), some (.int .i64 rp), some (.int .i32 0), some (.map (some M)), some (.bool false), some (.bool false), some (.slice none 0 0), some (.int .i64 0), some (.int .i64 0), some (.pointer none), some (.slice none 0 0), some (.int .i64 0), some (.int .i64 0), some (.int .i64 0)]) :
    Nd w N { s := s, mx := mx, rp := rp, mu := 0, M := M, rc := false, sy := false, sc := .slice none 0 0, fg := fun _ => s, fw := 0, fi := 0, pd := .pointer none, pl := .slice none 0 0, un := 0, dp := 0 } := by
  simp only [sift, List.cons.injEq, and_true] at hsift
  obtain ⟨h1, h2, h3, h4, h5, h6, h7, h8, h9, h10, h11, h12, h13, h14⟩ := hsift
  have hc := h.cell
  exact ⟨h.loose, h.self, (hc _ (by omega)).trans h1, (hc _ (by omega)).trans h2, (hc _ (by omega)).trans h3, (hc _ (by omega)).trans h4, (hc _ (by omega)).trans h5, (hc _ (by omega)).trans h6, (hc _ (by omega)).trans h7,
    fun k hk => h.fg k hk, (hc _ (by omega)).trans h8, (hc _ (by omega)).trans h9, (hc _ (by omega)).trans h10, (hc _ (by omega)).trans h11, (hc _ (by omega)).trans h12, (hc _ (by omega)).trans h13, by rw [hc _ (by omega), h14]; rfl, hm⟩

set_option maxRecDepth 100000 in
set_option maxHeartbeats 1000000 in
theorem new_any (w : World) (s : Fin 8) (per mx rp vn : Int) (hmx : 0 ≤ mx) :
    Calls Yba.prog 12 #[.agg (pc s), .agg #[.pointer none, .int .i64 per, .int .i64 mx, .int .i64 rp, .int .i64 vn]] w fun e w' => ∃ N M pd pl, e = .returned (.pointer (some ⟨N, 0, none⟩)) ∧ w.heap.size ≤ N ∧ w.heap.size ≤ M ∧ Below w.heap.size w w' ∧ Nd w' N (NS.new s mx rp M pd pl) := by
  obtain ⟨C, hC, hself, hsift0, hrun⟩ := build49 s per mx rp (w.heap.size + 1 + 1)
  have hsift : Hid _ := hsift0
  clear hsift0
  have hmm := @run_makeMap Yba.prog
  go_enter Yba.func12, Yba.ntmps12
  go_wp2
  clear hrun hmm
  go_loopw [17] (fun i wr => ∃ k : Nat, k ≤ 160 ∧ i = .int .i64 k ∧ wr.heap.size = w.heap.size + 4 ∧ Below w.heap.size w wr ∧ row? wr w.heap.size 0 21 = some (pc s) ∧ wr.heap[w.heap.size + 1 + 1]? = some (.map #[] 0) ∧ Raw wr (w.heap.size + 1 + 1 + 1) C s k) (fun i _ => 160 - (intOf i).toNat)
  case atStart =>
    have hst := Raw.start (((w.alloc (Obj.cells (pc s) 27)).alloc (Obj.cells #[Value.pointer none, Value.int IntKind.i64 per, Value.int IntKind.i64 mx, Value.int IntKind.i64 rp, Value.int IntKind.i64 vn] 62)).alloc (Obj.map #[] 0)) C s hC hself
    simp only [World.size_alloc] at hst
    refine ⟨0, by omega, rfl, by simp, ?_, ?_, ?_, hst⟩
    · exact ((((Below.refl _ _).alloc (Nat.le_refl _) _).alloc (by simp only [World.size_alloc]; omega) _).alloc (by simp only [World.size_alloc]; omega) _).alloc (by simp only [World.size_alloc]; omega) _
    · rw [row?_alloc_past _ _ _ _ _ (by simp only [World.size_alloc]; omega), row?_alloc_past _ _ _ _ _ (by simp only [World.size_alloc]; omega), row?_alloc_past _ _ _ _ _ (by simp only [World.size_alloc]; omega)]
      exact row_new _ _ _ rfl
    · rw [Below.heap_alloc _ _ _ (by simp only [World.size_alloc]; omega)]
      have := heap_alloc_new ((w.alloc (Obj.cells (pc s) 27)).alloc (Obj.cells #[Value.pointer none, Value.int IntKind.i64 per, Value.int IntKind.i64 mx, Value.int IntKind.i64 rp, Value.int IntKind.i64 vn] 62)) (Obj.map #[] 0)
      simpa only [World.size_alloc] using this
  case round =>
    obtain ⟨k, hk, rfl, hz, hb, hp, hm, hr⟩ := hrel
    by_cases hlt : k < 160
    · obtain ⟨cs, hcs⟩ := Option.isSome_iff_exists.1 (hr.there k hlt)
      have hl := hr.loose
      have hj3 : (0 : Int) ≤ (k : Int) := by omega
      have hj4 : (k : Int) < 160 := by omega
      go_wp2
      go_region
      go_wp2
      go_roundw
      case rel =>
        refine ⟨k + 1, by omega, by go_num, ?_, ?_, ?_, ?_, (hr.step hlt).drew⟩
        · rw [size_drew, size_setRow]; exact hz
        · exact (setRow_below wr hb (by omega) _ _).drew
        · rw [row?_drew, row?_setRow, if_neg (by omega)]; exact hp
        · rw [heap_drew, setRow_other _ _ _ _ (by omega)]; exact hm
      case measure => simp [intOf]; omega
    · have e : k = 160 := by omega
      subst e
      have hn := hr.done hm hsift.out
      obtain ⟨x, cx⟩ := Option.isSome_iff_exists.1 hn.nx
      have cr := hn.rc
      have cs := hn.sy
      have fr := hn.frozen
      have hn3 : Hid (Nd (((wr.setCell ⟨w.heap.size + 1 + 1 + 1, 3407, none⟩ (.int .i64 1)).setCell ⟨w.heap.size + 1 + 1 + 1, 30, none⟩ (.bool true)).setCell ⟨w.heap.size + 1 + 1 + 1, 31, none⟩ (.bool true)) (w.heap.size + 1 + 1 + 1) _) := ((hn.setNx (.int .i64 1)).setRc true).setSy true
      go_wp2_with fail
      refine (setp_some _ _ _ s w.heap.size 0 hn3.out hmx (.inl rfl) ?_ (by omega)).mono ?_
      · rw [row?_setCell, if_neg (by omega), row?_setCell, if_neg (by omega), row?_setCell, if_neg (by omega)]; exact hp
      rintro e w2 ⟨rfl, ht, g, pl, hnd, hg, hgr⟩
      go_wp2
      go_ret
      refine ⟨_, _, _, _, rfl, by omega, ?_, ?_, hnd⟩
      · show w.heap.size ≤ w.heap.size + 1 + 1; omega
      · exact ht.below (((hb.setCell (by show w.heap.size ≤ w.heap.size + 1 + 1 + 1; omega) _).setCell (by show w.heap.size ≤ w.heap.size + 1 + 1 + 1; omega) _).setCell (by show w.heap.size ≤ w.heap.size + 1 + 1 + 1; omega) _) (by omega) (by simp [World.setCell]; omega)
end Go.Proofs.Ybulkbsys
