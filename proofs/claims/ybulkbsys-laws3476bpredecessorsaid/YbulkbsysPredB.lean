/-
  RINGHOP: LawS3476BPredecessor, walked.
-/
import Derived.Test.YbulkbsysNodeFn
import Derived.Test.YbulkbsysDeparted
import Derived.Test.YbulkbsysPtr
import Derived.Deep.DrawnRows
namespace Go.Proofs.Ybulkbsys
open Go.RowKit Go.MuLone
attribute [local go_sem ↓] ld27 ld25 ld51 st27 st51 al27 al51 bx27 bx51 bx49 bd25 bd27 bd51 bd49 eq27 ne27 eq25 eg27 eg25 pc_addr dpc_pred dpc_rec
attribute [local go_sem] run_ld27 run_ld25 run_ld51 ldOut_some stOut_true run_st27 run_st51 run_al27 run_al51 run_bxRow run_bd25 run_bd27 run_bd51 run_bd51b run_eg27e run_eg27n run_eg25e run_eq27 run_ne27 run_eq25 ad_beq ad_bne ad_fold
attribute [local go_sem] row?_drew loose_drew row?_alloc_past loose_alloc_past row?_alloc_at loose_alloc_at size_setRow loose_setRow loose_setCell row?_setRow_same row?_setRow cell?_setRow frozen?_setRow row?_setCell setRow_drew setRow_alloc_past setRow_alloc_at
attribute [local go_sem] size_pc size_idc size_z27 size_z51 size_dpc single_pc single_z27 single_dpc dpc_node dpc_succ dpc_all pc_id pc_all pc_pop
attribute [local go_sem] row?_drewN loose_drewN alloc_drewN setCell_drewN setRow_drewN
attribute [local go_sem] cell?_alloc_ite newCell_cells frozen?_alloc_ite' row?_alloc_ite newRow?_cells loose_alloc_ite setCell_alloc_ite setNew_cells setRow_alloc_ite layNew_cells
attribute [local go_sem] plain_drew plain_drewN plain_setCell plain_alloc_ite peqOut_true run_eq29
set_option linter.unusedVariables false
set_option linter.unusedSimpArgs false
set_option maxRecDepth 100000 in
set_option maxHeartbeats 4000000 in
theorem pred_B (w : World) (a0 a1 a2 a3 a4 : Int) (rec syn drec : Bool) (b00 : 0 ≤ a0) (b01 : a0 ≤ 255) (b10 : 0 ≤ a1) (b11 : a1 ≤ 255) (b20 : 0 ≤ a2) (b21 : a2 ≤ 255) (b30 : 0 ≤ a3) (b31 : a3 ≤ 255) (b40 : 0 ≤ a4) (b41 : a4 ≤ 255) (hne : (tg a1 == tg a2) = false) :
    Calls Yba.prog 3 #[.int .u8 a0, .int .u8 a1, .int .u8 a2, .int .u8 a3, .int .u8 a4, .bool true, .bool rec, .bool syn, .bool drec] w fun e w' => e = .returned (.bool true) ∧ Below w.heap.size w w' := by
  go_enter Yba.func3, Yba.ntmps3
  go_wp2_with fail
  refine (node_any _ a0 3 2 b00 b01 (by decide) (by decide) (by decide) (by decide)).mono ?_
  rintro e w1 ⟨N, M, pd, pl, rfl, hN, hM, hb1, hn1⟩
  have hNlt := hn1.lt
  have c1 := hn1.pd
  have c2 := hn1.rc
  have c3 := hn1.sy
  have fr := hn1.frozen
  go_wp2_with (first | (go_at_call 7; refine (peer_any _ _ (by assumption) (by assumption)).mono ?_; rintro e w' ⟨rfl, rfl⟩))
  refine (departed_other _ N _ (tg a1) (tg a2) (tg a4) (w1.heap.size + 1) none drec (by exact (((((((hn1.setPd _).setRc rec).setSy syn).alloc _).alloc _).alloc _).alloc _).alloc _) rfl rfl ?r1 (by omega) rfl hne).mono ?_
  case r1 => simp [go_sem]
  rintro e w2 ⟨rfl, ht2, hn2⟩
  have r1 : row? w2 (w1.heap.size + 1) 0 21 = some (pc (tg a1)) := by
    rw [ht2.row (by simp [go_sem] <;> omega) (by omega)]
    simp [go_sem]
  have r2 : row? w2 (w1.heap.size + 1 + 1 + 1 + 1) 0 21 = some (pc (tg a2)) := by
    rw [ht2.row (by simp [go_sem]) (by omega)]
    simp [go_sem]
  have d1 : w2.cell? ⟨N, 3398, none⟩ = some (.pointer (some ⟨w1.heap.size + 1, 0, none⟩)) := hn2.pd
  have d2 : w2.cell? ⟨N, 30, none⟩ = some (.bool rec) := hn2.rc
  have d3 : w2.cell? ⟨N, 31, none⟩ = some (.bool syn) := hn2.sy
  have p1 : plain w2 (w1.heap.size + 1) = true := by
    rw [plain_of_block (ht2.block _ (by simp [go_sem] <;> omega) (by omega))]
    simp [go_sem]
  have z1 : N < w2.heap.size := hn2.lt
  have z2 : w1.heap.size + 1 < w2.heap.size := row?_lt r1
  have HB : Hid (Below w.heap.size w w2) := by
    refine ht2.below (((((((((hb1.setCell hN _).setCell hN _).setCell hN _).alloc ?_ _).alloc ?_ _).alloc ?_ _).alloc ?_ _).alloc ?_ _)) hN ?_ <;> (have := hb1.size; simp [go_sem]; omega)
  clear ht2 hn2 hn1 c1 c2 c3 fr
  go_wp2_with fail
  go_quiet (fail)
  go_wp2_with fail
  go_region_held3 (fun w' => w'.cell? ⟨N, 3398, none⟩ = some (.pointer (some ⟨w1.heap.size + 1, 0, none⟩)) ∧ row? w' (w1.heap.size + 1) 0 21 = some (pc (tg a1)) ∧ w'.cell? ⟨N, 30, none⟩ = some (.bool rec) ∧ w'.cell? ⟨N, 31, none⟩ = some (.bool syn) ∧ N < w'.heap.size ∧ w1.heap.size + 1 < w'.heap.size ∧ plain w' (w1.heap.size + 1) = true) ((go_split_ands; (try simp only [World.cell?_drewN, World.cell?_drew, row?_drewN, row?_drew, plain_drewN, plain_drew, World.heap_drewN, heapDrew, World.size_alloc] at *); (refine ⟨?_, ?_, ?_, ?_, ?_, ?_, ?_⟩) <;> first | assumption | omega | (refine (World.cell?_alloc_past _ _ _ ?_).trans ?_ <;> first | assumption | (simp only [World.size_alloc]; omega)) | (refine (row?_alloc_past _ _ _ _ _ ?_).trans ?_ <;> first | assumption | (simp only [World.size_alloc]; omega)) | (refine (plain_alloc_past _ _ _ ?_).trans ?_ <;> first | assumption | (simp only [World.size_alloc]; omega))))
    (first | (go_at_call 7; refine (peer_any _ _ b10 b11).mono ?_; rintro e w' ⟨rfl, rfl⟩))
  go_wp2
  go_ret
  exact ⟨rfl, below_dN (HB.out.alloc (by have := hb1.size; omega) _) _⟩

end Go.Proofs.Ybulkbsys
