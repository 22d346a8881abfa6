/-
  RINGHOP: (*Node).predecessorList of one predecessor and no rest.
-/
import Derived.Test.YbulkbsysSpans
import Derived.Test.YbulkbsysRowOf
namespace Go.Proofs.Ybulkbsys
open Go.RowKit
attribute [local go_sem ↓] ld27 ld25 ld51 st27 st51 al27 al51 bx27 bx51 bx49 bd25 bd27 bd51 bd49 eq27 ne27 eq25 eg27 eg25 pc_addr dpc_pred dpc_rec
attribute [local go_sem] run_ld27 run_ld25 run_ld51 ldOut_some stOut_true run_st27 run_st51 run_al27 run_al51 run_bxRow run_bd25 run_bd27 run_bd51 run_bd51b run_eg27e run_eg27n run_eg25e run_eq27 run_ne27 run_eq25 ad_beq ad_bne ad_fold
attribute [local go_sem] row?_drew loose_drew row?_alloc_past loose_alloc_past row?_alloc_at loose_alloc_at size_setRow loose_setRow loose_setCell row?_setRow_same row?_setRow cell?_setRow frozen?_setRow row?_setCell setRow_drew setRow_alloc_past setRow_alloc_at
attribute [local go_sem] size_pc size_idc size_z27 size_z51 size_dpc single_pc single_z27 single_dpc dpc_node dpc_succ dpc_all pc_id pc_all pc_pop
attribute [local go_sem] row?_drewN loose_drewN alloc_drewN setCell_drewN setRow_drewN
attribute [local go_sem] cell?_alloc_ite newCell_cells frozen?_alloc_ite' row?_alloc_ite newRow?_cells loose_alloc_ite setCell_alloc_ite setNew_cells setRow_alloc_ite layNew_cells
attribute [local go_sem ↓] bs45
attribute [local go_sem] run_bs45
theorem row_new (w : World) (t : Fin 8) (B : Nat) (h : B = w.heap.size) : row? (w.alloc (.cells (pc t) 27)) B 0 21 = some (pc t) := by
  rw [row?_alloc_at w _ _ _ _ _ h, if_pos (by rw [size_pc]; omega)]
  exact congrArg some (pc_all t)
set_option maxRecDepth 100000 in
set_option maxHeartbeats 1000000 in
theorem plist_same (w : World) (N : Nat) (q : NS) (h : Nd w N q) (hmx : 0 ≤ q.mx) :
    Calls Yba.prog 21 #[.pointer (some ⟨N, 0, none⟩), .agg (pc q.s), .slice none 0 0] w fun e w' => e = .returned (.slice none 0 0) ∧ Below w.heap.size w w' := by
  have hN := h.lt
  have cm := h.mx
  have ci := h.id
  go_enter Yba.func21, Yba.ntmps21
  go_wp2
  refine wp_loop_once ?_
  have hd : decide (q.mx < 0) = false := by simpa using hmx
  go_wp2
  go_quiet (fail)
  go_wp2_with (go_at_call 36; refine (spans_nil _ _).mono ?_; rintro e w' ⟨rfl, rfl⟩)
  go_ret
  exact ⟨rfl, below_dN ((((Below.refl _ _).alloc (Nat.le_refl _) _).alloc (by simp only [World.size_alloc]; omega) _).alloc (by simp only [World.size_alloc]; omega) _) _⟩

set_option maxRecDepth 100000 in
set_option maxHeartbeats 1000000 in
theorem plist_other (w : World) (N : Nat) (q : NS) (t : Fin 8) (h : Nd w N q) (hmx : 0 ≤ q.mx) (hrp : q.rp = 3) (hne : (t == q.s) = false) :
    Calls Yba.prog 21 #[.pointer (some ⟨N, 0, none⟩), .agg (pc t), .slice none 0 0] w fun e w' => (∃ a n c, e = .returned (.slice a n c)) ∧ Below w.heap.size w w' := by
  have hN := h.lt
  have cm := h.mx
  have ci := h.id
  have hd : decide (q.mx < 0) = false := by simpa using hmx
  go_enter Yba.func21, Yba.ntmps21
  go_wp2
  go_loopw [7, 17] (fun l k wr => (k = .int .i64 0 ∧ l = .slice none 0 0 ∧ wr = (w.alloc (.cells (pc t) 27)).alloc (.cells (pc t) 27)) ∨ (k = .int .i64 1 ∧ Below w.heap.size w wr ∧ ∃ g c, l = .slice (some ⟨g, 0, none⟩) 1 c ∧ row? wr g 0 21 = some (pc t))) (fun _ k _ => 1 - (intOf k).toNat)
  case atStart => exact .inl ⟨rfl, rfl, rfl⟩
  case round =>
    obtain ⟨rfl, rfl, rfl⟩ | ⟨rfl, hb, g, c, rfl, hg⟩ := hrel
    · go_wp2
      go_quiet (fail)
      go_wp2_with (at_builtin; refine app_peer (by rfl) _ _ (by rfl) (w.heap.size + 1) _ [] (by rfl) (own_nil _ _) (w.heap.size + 3) t (by rfl) ?hB (by simp) ?hbase ?_; rotate_left 2; intro g cap w1 hown hgrow hat hlt)
      case hB => rw [row?_drewN]; exact row_new _ _ _ (by simp)
      case hbase => simp only [World.heap_drewN, World.size_alloc]; omega
      go_roundw
      case rel =>
        refine .inr ⟨rfl, ?_, g, cap, rfl, ?_⟩
        · exact (below_dN (((((Below.refl _ _).alloc (Nat.le_refl _) _).alloc (by simp only [World.size_alloc]; omega) _).alloc (by simp only [World.size_alloc]; omega) _).alloc (by simp only [World.size_alloc]; omega) _) _).grown hgrow (by simp only [World.heap_drewN, World.size_alloc]; omega) (by intro k hk; cases hk)
        · have := (hown.at (i := 0) (by simp)).2.2.2
          simpa using this
      case measure => decide
    · have hn := h.below hb hN h.ltM
      go_wp2_with (go_at_call 36; refine (spans_one _ N q t g c hn hrp hg hne).mono ?_; rintro e w' ⟨rfl, hb2⟩)
      go_ret
      exact ⟨⟨_, _, _, rfl⟩, hb.trans (hb2.mono hb.size)⟩
end Go.Proofs.Ybulkbsys
