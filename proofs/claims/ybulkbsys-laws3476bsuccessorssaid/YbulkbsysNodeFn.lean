/-
  RINGHOP: the law's own maker of nodes.
-/
import Derived.Test.YbulkbsysNewNode
namespace Go.Proofs.Ybulkbsys
open Go.RowKit
attribute [local go_sem ↓] ld27 ld25 ld51 st27 st51 al27 al51 bx27 bx51 bx49 bd25 bd27 bd51 bd49 eq27 ne27 eq25 eg27 eg25 pc_addr dpc_pred dpc_rec
attribute [local go_sem] run_ld27 run_ld25 run_ld51 ldOut_some stOut_true run_st27 run_st51 run_al27 run_al51 run_bxRow run_bd25 run_bd27 run_bd51 run_bd51b run_eg27e run_eg27n run_eg25e run_eq27 run_ne27 run_eq25 ad_beq ad_bne ad_fold
attribute [local go_sem] row?_drew loose_drew row?_alloc_past loose_alloc_past row?_alloc_at loose_alloc_at size_setRow loose_setRow loose_setCell row?_setRow_same row?_setRow cell?_setRow frozen?_setRow row?_setCell setRow_drew setRow_alloc_past setRow_alloc_at
attribute [local go_sem] size_pc size_idc size_z27 size_z51 size_dpc single_pc single_z27 single_dpc dpc_node dpc_succ dpc_all pc_id pc_all pc_pop
attribute [local go_sem] row?_drewN loose_drewN alloc_drewN setCell_drewN setRow_drewN
attribute [local go_sem] cell?_alloc_ite newCell_cells frozen?_alloc_ite' row?_alloc_ite newRow?_cells loose_alloc_ite setCell_alloc_ite setNew_cells setRow_alloc_ite layNew_cells
set_option maxRecDepth 100000 in
set_option maxHeartbeats 1000000 in
theorem node_any (w : World) (x m r : Int) (x0 : 0 ≤ x) (x1 : x ≤ 255) (m0 : 0 ≤ m) (m1 : m ≤ 255) (r0 : 0 ≤ r) (r1 : r ≤ 255) :
    Calls Yba.prog 6 #[.int .u8 x, .int .u8 m, .int .u8 r] w fun e w' => ∃ N M pd pl, e = .returned (.pointer (some ⟨N, 0, none⟩)) ∧ w.heap.size ≤ N ∧ w.heap.size ≤ M ∧ Below w.heap.size w w' ∧ Nd w' N (NS.new (tg x) (1 + m % 5) (1 + r % (1 + m % 5 + 1)) M pd pl) := by
  have hk : 0 < 1 + m % 5 + 1 := by omega
  have b0 : 0 ≤ r % (1 + m % 5 + 1) := Int.emod_nonneg _ (by omega)
  have b1 : r % (1 + m % 5 + 1) ≤ 6 := by have := Int.emod_lt_of_pos r hk; omega
  go_enter Yba.func6, Yba.ntmps6
  go_wp2_with (go_at_call 7; refine (peer_any _ _ x0 x1).mono ?_; rintro e w' ⟨rfl, rfl⟩)
  refine (new_any _ (tg x) _ (1 + m % 5) (1 + r % (1 + m % 5 + 1)) _ (by omega)).mono ?_
  rintro e w2 ⟨N, M, pd, pl, rfl, hN, hM, hb, hn⟩
  simp only [World.size_alloc] at hN hM hb
  go_wp2
  go_ret
  exact ⟨N, M, pd, pl, rfl, by omega, by omega, ((Below.refl _ _).alloc (Nat.le_refl _) _).trans (hb.mono (by omega)), hn⟩
end Go.Proofs.Ybulkbsys
