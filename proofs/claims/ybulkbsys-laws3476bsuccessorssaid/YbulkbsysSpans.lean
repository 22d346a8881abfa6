/-
  RINGHOP: (*Node).copySpans at no predecessor and at one; slices.Contains at no string.
-/
import Derived.Test.YbulkbsysNode
import Derived.RegionTactic
namespace Go.Proofs.Ybulkbsys
open Go.RowKit
attribute [local go_sem ↓] ld27 ld25 ld51 st27 st51 al27 al51 bx27 bx51 bx49 bd25 bd27 bd51 bd49 eq27 ne27 eq25 eg27 eg25 pc_addr dpc_pred dpc_rec
attribute [local go_sem] run_ld27 run_ld25 run_ld51 ldOut_some stOut_true run_st27 run_st51 run_al27 run_al51 run_bxRow run_bd25 run_bd27 run_bd51 run_bd51b run_eg27e run_eg27n run_eg25e run_eq27 run_ne27 run_eq25 ad_beq ad_bne ad_fold
attribute [local go_sem] row?_drew loose_drew row?_alloc_past loose_alloc_past row?_alloc_at loose_alloc_at size_setRow loose_setRow loose_setCell row?_setRow_same row?_setRow cell?_setRow frozen?_setRow row?_setCell setRow_drew setRow_alloc_past setRow_alloc_at
attribute [local go_sem] size_pc size_idc size_z27 size_z51 size_dpc single_pc single_z27 single_dpc dpc_node dpc_succ dpc_all pc_id pc_all pc_pop
attribute [local go_sem] row?_drewN loose_drewN alloc_drewN setCell_drewN setRow_drewN
attribute [local go_sem] cell?_alloc_ite newCell_cells frozen?_alloc_ite' row?_alloc_ite newRow?_cells loose_alloc_ite setCell_alloc_ite setNew_cells setRow_alloc_ite layNew_cells
set_option maxRecDepth 100000 in
theorem spans_nil (w : World) (p : Value) :
    Calls Yba.prog 36 #[p, .slice none 0 0] w fun e w' => e = .returned (.tuple #[.int .i64 0, .int .i64 0]) ∧ w' = w := by
  go_enter Yba.func36, Yba.ntmps36
  go_wp2
  refine wp_loop_once ?_
  go_wp2
  go_ret2
  exact ⟨rfl, rfl⟩

set_option maxRecDepth 100000 in
theorem index_nil (w : World) (x : Value) :
    Calls Yba.prog 49 #[.slice none 0 0, x] w fun e w' => e = .returned (.int .i64 (-1)) ∧ w' = w := by
  go_enter Yba.func49, Yba.ntmps49
  go_wp2
  refine wp_loop_once ?_
  go_wp2
  go_ret
  exact ⟨rfl, rfl⟩

set_option maxRecDepth 100000 in
theorem contains_nil (w : World) (x : Value) :
    Calls Yba.prog 47 #[.slice none 0 0, x] w fun e w' => e = .returned (.bool false) ∧ w' = w := by
  go_enter Yba.func47, Yba.ntmps47
  go_wp2_with (go_at_call 49; refine (index_nil _ _).mono ?_; rintro e w' ⟨rfl, rfl⟩)
  go_ret
  exact ⟨rfl, rfl⟩

theorem below_dN {B : Nat} {a w : World} (h : Below B a w) (n : Nat) : Below B a (w.drewN n) := ⟨h.os, h.tape, h.output, h.size, h.block⟩
set_option maxRecDepth 100000 in
set_option maxHeartbeats 1000000 in
/-- 'copySpans' of one predecessor that is another than the node, three replicas: both counts are 1. -/
theorem spans_one (w : World) (N : Nat) (q : NS) (t : Fin 8) (g c : Nat) (h : Nd w N q) (hrp : q.rp = 3) (hg : row? w g 0 21 = some (pc t)) (hne : (t == q.s) = false) :
    Calls Yba.prog 36 #[.pointer (some ⟨N, 0, none⟩), .slice (some ⟨g, 0, none⟩) 1 c] w fun e w' => e = .returned (.tuple #[.int .i64 1, .int .i64 1]) ∧ Below w.heap.size w w' := by
  have hglt := row?_lt hg
  have hN := h.lt
  go_enter Yba.func36, Yba.ntmps36
  go_wp2
  go_loopw [4, 6, 14] (fun mi be k wr => mi = .int .i64 1 ∧ ((k = .int .i64 0 ∧ be = .slice none 0 0 ∧ wr = w) ∨ (k = .int .i64 1 ∧ Below w.heap.size w wr))) (fun _ _ k _ => 1 - (intOf k).toNat)
  case atStart => exact ⟨rfl, .inl ⟨rfl, rfl, rfl⟩⟩
  case round =>
    obtain ⟨rfl, ⟨rfl, rfl, rfl⟩ | ⟨rfl, hb⟩⟩ := hrel
    · have crp : wr.cell? ⟨N, 23, none⟩ = some (.int .i64 3) := by rw [← hrp]; exact h.rp
      have cad : wr.cell? ⟨N, 20, none⟩ = some (.string (ad q.s)) := h.addr
      go_wp2_with (first | (go_at_call 47; refine (contains_nil _ _).mono ?_; rintro e w' ⟨rfl, rfl⟩))
      go_quiet (fail)
      go_wp2_with (go_at_call 47; refine (contains_nil _ _).mono ?_; rintro e w' ⟨rfl, rfl⟩)
      go_roundw
      case rel =>
        refine ⟨rfl, .inr ⟨rfl, ?_⟩⟩
        exact below_dN ((((Below.refl _ _).alloc (Nat.le_refl _) _).alloc (by simp only [World.size_alloc]; omega) _).alloc (by simp only [World.size_alloc]; omega) _) _
      case measure => decide
    · go_wp2
      go_ret2
      exact ⟨rfl, hb⟩
end Go.Proofs.Ybulkbsys
