/-
  RINGHOP: (*Node).setSuccessorsLocked.
-/
import Derived.Test.YbulkbsysCopyHolders
import Derived.Test.YbulkbsysEqs
namespace Go.Proofs.Ybulkbsys
open Go.RowKit
attribute [local go_sem ↓] ld27 ld25 ld51 st27 st51 al27 al51 bx27 bx51 bx49 bd25 bd27 bd51 bd49 eq27 ne27 eq25 eg27 eg25 pc_addr dpc_pred dpc_rec
attribute [local go_sem] run_ld27 run_ld25 run_ld51 ldOut_some stOut_true run_st27 run_st51 run_al27 run_al51 run_bxRow run_bd25 run_bd27 run_bd51 run_bd51b run_eg27e run_eg27n run_eg25e run_eq27 run_ne27 run_eq25 ad_beq ad_bne ad_fold
attribute [local go_sem] row?_drew loose_drew row?_alloc_past loose_alloc_past row?_alloc_at loose_alloc_at size_setRow loose_setRow loose_setCell row?_setRow_same row?_setRow cell?_setRow frozen?_setRow row?_setCell setRow_drew setRow_alloc_past setRow_alloc_at
attribute [local go_sem] size_pc size_idc size_z27 size_z51 size_dpc single_pc single_z27 single_dpc dpc_node dpc_succ dpc_all pc_id pc_all pc_pop
attribute [local go_sem] row?_drewN loose_drewN alloc_drewN setCell_drewN setRow_drewN
attribute [local go_sem] cell?_alloc_ite newCell_cells frozen?_alloc_ite' row?_alloc_ite newRow?_cells loose_alloc_ite setCell_alloc_ite setNew_cells setRow_alloc_ite layNew_cells
set_option linter.unusedVariables false
set_option maxRecDepth 100000 in
set_option maxHeartbeats 4000000 in
theorem sets_any (w : World) (N : Nat) (q : NS) (a b : Option Addr) (ca cb : Nat) (xs ys : List (Fin 8)) (h : Nd w N q) (hsc : q.sc = .slice a xs.length ca) (hx : Lst w N a xs) (hy : Lst w N b ys) (lx : xs.length ≤ 1000) (ly : ys.length ≤ 1000) (r0 : 1 ≤ q.rp) (r1 : q.rp ≤ 1000) :
    Calls Yba.prog 16 #[.pointer (some ⟨N, 0, none⟩), .slice b ys.length cb] w fun e w' => e = .returned (.tuple #[]) ∧ Turn N w w' ∧ Nd w' N { q with sc := .slice b ys.length cb, sy := q.sy && (holds q.s q.rp [] ys == holds q.s q.rp [] xs) } := by
  have hN := h.lt
  go_enter Yba.func16, Yba.ntmps16
  go_wp2_with fail
  refine (copyh_any w N q a ca xs h hsc hx lx r0 r1).mono ?_
  rintro e w1 ⟨v1, rfl, hown1, hb1⟩
  obtain ⟨a1, c1, rfl, hl1⟩ := hown1.lst hN
  have hn1 := h.grown hb1
  have hn2 : Hid (Nd (w1.setCell ⟨N, 35, none⟩ (.slice b ys.length cb)) N { q with sc := .slice b ys.length cb }) := hn1.setSc _
  have csc := hn1.sc
  have fr := hn1.frozen
  have ht1 : Turn N w1 (w1.setCell ⟨N, 35, none⟩ (.slice b ys.length cb)) := (Turn.refl _ _).setCell _ _
  have Hl1 : Hid (Lst (w1.setCell ⟨N, 35, none⟩ (.slice b ys.length cb)) N a1 (holds q.s q.rp [] xs)) := hl1.turn ht1
  have Hly : Hid (Lst (w1.setCell ⟨N, 35, none⟩ (.slice b ys.length cb)) N b ys) := (hy.below hb1 (Nat.le_refl _)).turn ht1
  have HT : Hid (Turn N w (w1.setCell ⟨N, 35, none⟩ (.slice b ys.length cb))) := (Turn.of_below hb1).trans ht1
  have len1 : (holds q.s q.rp [] xs).length ≤ 100000 := by have := length_holds q.s q.rp xs []; simp at this; omega
  have len2 : (holds q.s q.rp [] ys).length ≤ 100000 := by have := length_holds q.s q.rp ys []; simp at this; omega
  clear hl1 hown1 hn1 ht1 h hsc hx hy hb1
  go_wp2_with fail
  refine (copyh_any _ N _ b cb ys hn2.out rfl Hly.out ly r0 r1).mono ?_
  rintro e w2 ⟨v2, rfl, hown2, hb2⟩
  obtain ⟨a2, c2, rfl, hl2⟩ := hown2.lst (N := N) (by have := hn2.out.lt; exact this)
  have hn3 : Hid (Nd w2 N { q with sc := .slice b ys.length cb }) := hn2.out.grown hb2
  have Hl1' : Hid (Lst w2 N a1 (holds q.s q.rp [] xs)) := Hl1.out.below hb2 (Nat.le_refl _)
  have HT2 : Hid (Turn N w w2) := HT.out.trans (.of_below hb2)
  clear hown2 hb2 Hly HT Hl1 hn2 csc fr
  go_wp2_with fail
  refine (eq24 w2 N a2 a1 c2 c1 _ _ hl2 Hl1'.out len2 len1).mono ?_
  rintro e w3 ⟨rfl, n, rfl⟩
  have c31 : w2.cell? ⟨N, 31, none⟩ = some (.bool q.sy) := hn3.out.sy
  have fr := hn3.out.frozen
  clear hl2 Hl1'
  generalize hE : (holds q.s q.rp [] ys == holds q.s q.rp [] xs) = E at *
  have HE : Hid ((holds q.s q.rp [] ys == holds q.s q.rp [] xs) = E) := hE
  clear hE
  cases E
  · go_wp2_with fail
    go_end0
    exact ⟨rfl, (HT2.out.setCell _ _).drewN _, by rw [HE.out, Bool.and_false]; exact (hn3.out.setSy false).drewN _⟩
  · go_wp2_with fail
    go_end0
    exact ⟨rfl, HT2.out.drewN _, by rw [HE.out, Bool.and_true]; exact hn3.out.drewN _⟩
end Go.Proofs.Ybulkbsys
