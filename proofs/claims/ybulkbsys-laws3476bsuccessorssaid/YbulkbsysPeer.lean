/-
  RINGHOP: the law's own maker of peers.
-/
import Derived.Test.YbulkbsysOps
namespace Go.Proofs.Ybulkbsys
open Go.RowKit
theorem ad_fold (t : Fin 8) : Utf8.encode (97 + (t.val : Int)) = ad t := rfl
attribute [local go_sem ↓] ld27 ld25 ld51 st27 st51 al27 al51 bx27 bx51 bx49 bd25 bd27 bd51 bd49 eq27 ne27 eq25 eg27 eg25
attribute [local go_sem] run_ld27 run_ld25 run_ld51 ldOut_some stOut_true run_st27 run_st51 run_al27 run_al51 run_bxRow run_bd25 run_bd27 run_bd51 run_bd51b run_eg27e run_eg27n run_eg25e run_eq27 run_ne27 run_eq25 ad_beq ad_bne ad_fold
attribute [local go_sem] row?_drew loose_drew row?_alloc_past loose_alloc_past row?_alloc_at loose_alloc_at size_setRow loose_setRow loose_setCell row?_setRow_same row?_setRow cell?_setRow frozen?_setRow row?_setCell setRow_drew setRow_alloc_past setRow_alloc_at
attribute [local go_sem] size_pc size_idc size_z27 size_z51 size_dpc single_pc single_z27 single_dpc dpc_node dpc_succ dpc_pred dpc_rec dpc_all pc_id pc_all pc_addr
/-- A result that lies in a cell: a whole peer. -/
theorem results_peer {fn : Func} {p : Tmp} (h : fn.results = #[.cell p 27]) (tmps : Array Value) (w : World) (b o : Nat) (cs : Array Value) (hp : tmps.getD p undef = .pointer (some ⟨b, o, none⟩)) (hc : row? w b o 21 = some cs) :
    (results fn tmps).run Yba.prog w = .ok (.agg cs) w := by
  have := run_loadVar_mid (P := Yba.prog) w b o 27 cs.toList _ (row?_range hc) Yba.underlying27 rfl (by rw [Array.length_toList, row?_size hc]; kernel_rfl)
  simp only [Array.getD_eq_getD_getElem?] at hp
  simp [results, h, hp, asAddr, this]
set_option maxRecDepth 20000 in
set_option maxHeartbeats 400000 in
/-- 'zzs3476bpeer(x)': the peer that x names; one new block, which holds it. -/
theorem peer_any (x : Int) (w : World) (h0 : 0 ≤ x) (h1 : x ≤ 255) :
    Calls Yba.prog 7 #[.int .u8 x] w fun e w' => e = .returned (.agg (pc (tg x))) ∧ w' = w.alloc (.cells (pc (tg x)) 27) := by
  have hx : x % 8 = ((tg x).val : Int) := (tg_val h0).symm
  have hl := (tg x).isLt
  generalize tg x = t at hx hl ⊢
  go_enter Yba.func7, Yba.ntmps7
  go_wp2
  exact bodyPost_ret (v := .agg (pc t)) (results_peer Yba.results7 _ _ w.heap.size 0 (pc t) rfl (by simp [go_sem])) rfl ⟨rfl, rfl⟩
end Go.Proofs.Ybulkbsys
