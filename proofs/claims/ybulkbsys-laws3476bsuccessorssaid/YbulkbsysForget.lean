/-
  RINGHOP: (*Node).forgetLocked.
-/
import Derived.Test.YbulkbsysNode
import Derived.RegionTactic
namespace Go.Proofs.Ybulkbsys
open Go.RowKit
attribute [local go_sem ↓] ld27 ld25 ld51 st27 st51 al27 al51 bx27 bx51 bx49 bd25 bd27 bd51 bd49 eq27 ne27 eq25 eg27 eg25 pc_addr dpc_pred dpc_rec
attribute [local go_sem] run_ld27 run_ld25 run_ld51 ldOut_some stOut_true run_st27 run_st51 run_al27 run_al51 run_bxRow run_bd25 run_bd27 run_bd51 run_bd51b run_eg27e run_eg27n run_eg25e run_eq27 run_ne27 run_eq25 ad_beq ad_bne ad_fold
attribute [local go_sem] row?_drew loose_drew row?_alloc_past loose_alloc_past row?_alloc_at loose_alloc_at size_setRow loose_setRow loose_setCell row?_setRow_same row?_setRow cell?_setRow frozen?_setRow row?_setCell setRow_drew setRow_alloc_past setRow_alloc_at
attribute [local go_sem] size_pc size_idc size_z27 size_z51 size_dpc single_pc single_z27 single_dpc dpc_node dpc_succ dpc_all pc_id pc_all pc_pop
attribute [local go_sem] row?_drewN loose_drewN alloc_drewN setCell_drewN setRow_drewN
attribute [local go_sem] cell?_alloc_ite newCell_cells frozen?_alloc_ite' row?_alloc_ite newRow?_cells loose_alloc_ite setCell_alloc_ite setNew_cells setRow_alloc_ite layNew_cells
/-- The fingers below j, but for the first, that named t name s. -/
def forgot (f : Nat → Fin 8) (s t : Fin 8) (j : Nat) : Nat → Fin 8 := fun k => if 1 ≤ k ∧ k < j ∧ f k = t then s else f k
/-- Whether one was met below j. -/
def met (f : Nat → Fin 8) (t : Fin 8) : Nat → Bool
  | 0 => false
  | j + 1 => met f t j || (decide (1 ≤ j) && (f j == t))
theorem forgot_step_hit {f : Nat → Fin 8} {s t : Fin 8} {j : Nat} (hj : 1 ≤ j) (h : f j = t) : put (forgot f s t j) j s = forgot f s t (j + 1) := by
  funext k
  unfold put forgot
  by_cases e : k = j
  · subst e; rw [if_pos rfl, if_pos ⟨hj, by omega, h⟩]
  · rw [if_neg e]
    by_cases g : 1 ≤ k ∧ k < j ∧ f k = t
    · rw [if_pos g, if_pos ⟨g.1, by omega, g.2.2⟩]
    · rw [if_neg g, if_neg (fun g' => g ⟨g'.1, by omega, g'.2.2⟩)]
theorem forgot_step_miss {f : Nat → Fin 8} {s t : Fin 8} {j : Nat} (h : f j ≠ t) : forgot f s t j = forgot f s t (j + 1) := by
  funext k
  unfold forgot
  by_cases g : 1 ≤ k ∧ k < j ∧ f k = t
  · rw [if_pos g, if_pos ⟨g.1, by omega, g.2.2⟩]
  · rw [if_neg g, if_neg (fun g' => g ⟨g'.1, by
      rcases Nat.lt_or_ge k j with h' | h'
      · exact h'
      · exact absurd (show f j = t by rw [← show k = j by omega]; exact g'.2.2) h, g'.2.2⟩)]
theorem forgot_at {f : Nat → Fin 8} {s t : Fin 8} {j : Nat} : forgot f s t j j = f j := by
  unfold forgot
  rw [if_neg (by omega)]
theorem forgot_one {f : Nat → Fin 8} {s t : Fin 8} : forgot f s t 1 = f := by
  funext k
  unfold forgot
  rw [if_neg (by omega)]
/-- The node behind 'forgetLocked' of t, j fingers having been looked at. -/
def NS.forget (q : NS) (t : Fin 8) (j : Nat) : NS := { q with fg := forgot q.fg q.s t j, fw := if met q.fg t j then 0 else q.fw, fi := if met q.fg t j then 0 else q.fi }

theorem NS.forget_hit {q : NS} {t : Fin 8} {j : Nat} (hj : 1 ≤ j) (h : q.fg j = t) : { q.forget t j with fg := put (q.forget t j).fg j q.s, fw := 0, fi := 0 } = q.forget t (j + 1) := by
  have hm : met q.fg t (j + 1) = true := by simp [met, hj, h]
  unfold NS.forget
  rw [hm, ← forgot_step_hit hj h]
  rfl
theorem NS.forget_miss {q : NS} {t : Fin 8} {j : Nat} (h : q.fg j ≠ t) : q.forget t j = q.forget t (j + 1) := by
  have hm : met q.fg t (j + 1) = met q.fg t j := by simp [met, h]
  unfold NS.forget
  rw [hm, ← forgot_step_miss h]

set_option maxRecDepth 100000 in
set_option maxHeartbeats 1000000 in
theorem forget_any (w : World) (N : Nat) (q : NS) (t : Fin 8) (h : Nd w N q) :
    Calls Yba.prog 18 #[.pointer (some ⟨N, 0, none⟩), .agg (pc t)] w fun e w' => e = .returned (.tuple #[]) ∧ Turn N w w' ∧ Nd w' N (q.forget t 160) := by
  have hlt := h.lt
  go_enter Yba.func18, Yba.ntmps18
  go_wp2
  go_loopw [4] (fun i wr => ∃ (j : Nat), 1 ≤ j ∧ j ≤ 160 ∧ i = .int .i64 j ∧ Turn N w wr ∧ w.heap.size < wr.heap.size ∧ row? wr w.heap.size 0 21 = some (pc t) ∧ Nd wr N (q.forget t j)) (fun i _ => 160 - (intOf i).toNat)
  case atStart =>
    refine ⟨1, by omega, by omega, rfl, (Turn.refl _ _).alloc _, by simp, by simp [go_sem], ?_⟩
    have : q.forget t 1 = q := by
      unfold NS.forget
      rw [forgot_one]
      rfl
    rw [this]
    exact h.alloc _
  case round =>
    obtain ⟨j, hj1, hj2, rfl, ht, hz, hp, hn⟩ := hrel
    by_cases hlt2 : j < 160
    · have c0 : row? wr N (36 + j * 21) 21 = some (pc (q.fg j)) := by
        have := hn.fg j hlt2
        rw [show (q.forget t j).fg j = q.fg j from forgot_at] at this
        exact this
      have cs : row? wr N 0 21 = some (pc q.s) := hn.self
      have cl := hn.loose
      obtain ⟨fw, cw⟩ : ∃ x, wr.cell? ⟨N, 3396, none⟩ = some (.int .i64 x) := ⟨_, hn.fw⟩
      obtain ⟨fi, ci⟩ : ∃ x, wr.cell? ⟨N, 3397, none⟩ = some (.int .i64 x) := ⟨_, hn.fi⟩
      have fr := hn.frozen
      have hj3 : (0 : Int) ≤ (j : Int) := by omega
      have hj4 : (j : Int) < 160 := by omega
      by_cases he : q.fg j = t
      · have hn2 : Hid (q.fg j = t) := he
        have he2 : (q.fg j == t) = true := by simpa using he
        clear he
        go_wp2
        go_quiet (fail)
        go_wp2
        go_region
        go_wp2
        go_roundw
        case rel =>
          refine ⟨j + 1, by omega, by omega, by go_num, (((ht.setRow _ _).setCell _ _).setCell _ _).drewN _, ?_, ?_, ?_⟩
          · simp [go_sem]; omega
          · simp only [row?_drewN, row?_setCell, row?_setRow]
            rw [if_neg (by omega), if_neg (by omega), if_neg (by omega)]
            exact hp
          · rw [← NS.forget_hit hj1 hn2.out]
            exact (((hn.setFg j hlt2 q.s).setFw 0).setFi 0).drewN _
        case measure => simp [intOf]; omega
      · have he2 : (q.fg j == t) = false := by simpa using he
        go_wp2
        go_quiet (fail)
        go_wp2
        go_roundw
        case rel =>
          refine ⟨j + 1, by omega, by omega, by go_num, ht.drewN _, by simpa using hz, by simpa [go_sem] using hp, ?_⟩
          rw [← NS.forget_miss he]
          exact hn.drewN _
        case measure => simp [intOf]; omega
    · go_wp2
      go_end0
      have : j = 160 := by omega
      subst this
      exact ⟨rfl, ht, hn⟩
end Go.Proofs.Ybulkbsys
