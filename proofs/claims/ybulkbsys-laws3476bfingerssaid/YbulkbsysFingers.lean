/-
  RINGHOP: LawS3476BFingers, walked.
-/
import Derived.Test.YbulkbsysNodeFn
import Derived.Test.YbulkbsysDeparted
import Derived.Test.YbulkbsysPtr
import Derived.Deep.DrawnRows
namespace Go.Proofs.Ybulkbsys
open Go.RowKit Go.MuLone
attribute [local go_sem ↓] ld27 ld25 ld51 st27 st51 al27 al51 bx27 bx51 bx49 bd25 bd27 bd51 bd49 eq27 ne27 eq25 eg27 eg25 pc_addr dpc_pred dpc_rec
attribute [local go_sem] run_ld27 run_ld25 run_ld51 ldOut_some stOut_true run_st27 run_st51 run_al27 run_al51 run_bxRow run_bd25 run_bd27 run_bd51 run_bd51b run_eg27e run_eg27n run_eg25e run_eq27 run_ne27 run_eq25 ad_beq ad_bne ad_fold
attribute [local go_sem] row?_drew loose_drew row?_alloc_past loose_alloc_past row?_alloc_at loose_alloc_at size_setRow loose_setRow loose_setCell row?_setRow_same row?_setRow cell?_setRow frozen?_setRow row?_setCell setRow_drew setRow_alloc_past setRow_alloc_at
attribute [local go_sem] size_pc size_idc size_z27 size_z51 size_dpc single_pc single_z27 single_dpc dpc_node dpc_succ dpc_all pc_id pc_all pc_pop
attribute [local go_sem] row?_drewN loose_drewN alloc_drewN setCell_drewN setRow_drewN
attribute [local go_sem] cell?_alloc_ite newCell_cells frozen?_alloc_ite' row?_alloc_ite newRow?_cells loose_alloc_ite setCell_alloc_ite setNew_cells setRow_alloc_ite layNew_cells
set_option linter.unusedVariables false
set_option linter.unusedSimpArgs false
theorem rem_run (k len : Nat) (h0 : 0 < len) (w : World) : (binOp .rem 3 (.int .i64 (k : Int)) (.int .i64 (len : Int))).run Yba.prog w = .ok (.int .i64 ((k % len : Nat) : Int)) w := by
  have ht : (k : Int).tmod (len : Int) = ((k % len : Nat) : Int) := by rw [Int.tmod_eq_emod_of_nonneg (by omega)]; simp
  simp [binOp, go_sem, ht]
  omega
theorem keep_cell {w : World} {b o : Nat} {v : Value} {ob : Obj} (h : w.cell? ⟨b, o, none⟩ = some v) (hb : b < w.heap.size) : (w.alloc ob).cell? ⟨b, o, none⟩ = some v := (World.cell?_alloc_past ob b o hb).trans h
theorem keep_loose {w : World} {N : Nat} {ob : Obj} (h : loose w N = true) (hb : N < w.heap.size) : loose (w.alloc ob) N = true := (loose_alloc_past w ob N hb).trans h
theorem keep_row {w : World} {N o : Nat} {ob : Obj} (h : (row? w N o 21).isSome = true) (hb : N < w.heap.size) : (row? (w.alloc ob) N o 21).isSome = true := by rw [row?_alloc_past w ob N o 21 hb]; exact h
theorem keep_cell2 {w : World} {b o N o' : Nat} {v : Value} {ob : Obj} {t : Fin 8} (h : (w.alloc ob).cell? ⟨b, o, none⟩ = some v) (hb : b < w.heap.size) (hN : b ≠ N) : ((setRow w N o' (pc t)).alloc ob).cell? ⟨b, o, none⟩ = some v := by
  rw [World.cell?_alloc_past ob b o (by rw [size_setRow]; exact hb), cell?_setRow, if_neg (by omega)]
  exact (World.cell?_alloc_past ob b o hb).symm.trans h
theorem keep_loose2 {w : World} {N o' : Nat} {ob : Obj} {t : Fin 8} (h : loose (w.alloc ob) N = true) (hb : N < w.heap.size) : loose ((setRow w N o' (pc t)).alloc ob) N = true := by
  rw [loose_alloc_past _ ob N (by rw [size_setRow]; exact hb), loose_setRow]
  exact (loose_alloc_past w ob N hb).symm.trans h
theorem keep_row2 {w : World} {N o : Nat} {ob : Obj} {t : Fin 8} (h : (row? (w.alloc ob) N o 21).isSome = true) (hb : N < w.heap.size) : (row? ((setRow w N o (pc t)).alloc ob) N o 21).isSome = true := by
  rw [row?_alloc_past w ob N o 21 hb] at h
  rw [row?_alloc_past _ ob N o 21 (by rw [size_setRow]; exact hb), row?_setRow_same w N o 21 (pc t) h (size_pc t)]
  rfl
theorem carry {w wr w' : World} {N D : Nat} {q : NS} {t : Fin 8} {G : Prop} (hb : Below w.heap.size w wr) (hr : row? wr D 0 21 = some (pc t)) (hn : Nd wr N q) (hg : Below wr.heap.size wr w')
    (h : Below w.heap.size w w' → row? w' D 0 21 = some (pc t) → Nd w' N q → G) : G :=
  h (hb.trans (hg.mono hb.size)) ((row?_of_block (hg.block D (row?_lt hr)) 0 21).trans hr) (hn.grown hg)
/-- The fingers below k are F's, the others s. -/
def laidF (F : Nat → Fin 8) (s : Fin 8) (k : Nat) : Nat → Fin 8 := fun j => if j < k then F j else s
theorem laidF_zero (F : Nat → Fin 8) (s : Fin 8) : laidF F s 0 = fun _ => s := by funext j; unfold laidF; rw [if_neg (by omega)]
theorem laidF_step (F : Nat → Fin 8) (s : Fin 8) (k : Nat) : put (laidF F s k) k (F k) = laidF F s (k + 1) := by
  funext j
  unfold put laidF
  by_cases e : j = k
  · subst e; rw [if_pos rfl, if_pos (by omega)]
  · rw [if_neg e]
    by_cases g : j < k
    · rw [if_pos g, if_pos (by omega)]
    · rw [if_neg g, if_neg (by omega)]

set_option maxRecDepth 100000 in
set_option maxHeartbeats 4000000 in
theorem fing_some (w : World) (a0 a1 : Int) (b off len cap : Nat) (tag : Nat → Int) (b00 : 0 ≤ a0) (b01 : a0 ≤ 255) (b10 : 0 ≤ a1) (b11 : a1 ≤ 255) (hlen : 0 < len) (hbig : len ≤ 1024) (hb : b < w.heap.size)
    (hc : ∀ i, i < len → w.cell? ⟨b, off + i, none⟩ = some (.int .u8 (tag i))) (ht0 : ∀ i, i < len → 0 ≤ tag i ∧ tag i ≤ 255) :
    Calls Yba.prog 5 #[.int .u8 a0, .int .u8 a1, .slice (some ⟨b, off, none⟩) len cap] w fun e w' => e = .returned (.bool true) ∧ Below w.heap.size w w' := by
  have hl0 : (0 : Int) < (len : Int) := by omega
  have hl1 : (len : Int) ≤ 1024 := by omega
  go_enter Yba.func5, Yba.ntmps5
  go_wp2_with fail
  refine (node_any _ a0 3 2 b00 b01 (by decide) (by decide) (by decide) (by decide)).mono ?_
  rintro e w1 ⟨N, M, pd, pl, rfl, hN, hM, hb1, hn1⟩
  have hNlt := hn1.lt
  go_wp2_with fail
  go_loopw [18] (fun i wr => ∃ k : Nat, k ≤ 160 ∧ i = .int .i64 k ∧ Below w.heap.size w wr ∧ Nd wr N { NS.new (tg a0) (1 + 3 % 5) (1 + 2 % (1 + 3 % 5 + 1)) M pd pl with fg := laidF (fun j => tg (tag (j % len))) (tg a0) k }) (fun i _ => 160 - (intOf i).toNat)
  case atStart =>
    refine ⟨0, by omega, rfl, hb1, ?_⟩
    rw [laidF_zero]
    exact hn1
  case round =>
    obtain ⟨k, hk, rfl, hbr, hn⟩ := hrel
    by_cases hlt : k < 160
    · obtain ⟨m, hm, hml⟩ : ∃ m : Nat, ((k : Int) % (len : Int)) = (m : Int) ∧ m = k % len := ⟨k % len, by omega, rfl⟩
      have hmlt : m < len := by rw [hml]; exact Nat.mod_lt _ hlen
      have hm0 : (0 : Int) ≤ (m : Int) := by omega
      have hm1 : (m : Int) < (len : Int) := by omega
      have cm : wr.cell? ⟨b, off + m, none⟩ = some (.int .u8 (tag m)) := (hbr.cell (p := ⟨b, off + m, none⟩) hb).trans (hc m hmlt)
      obtain ⟨t0, t1⟩ := ht0 m hmlt
      have htm : (k : Int).tmod (len : Int) = (m : Int) := by rw [Int.tmod_eq_emod_of_nonneg (by omega)]; exact hm
      have hlz : ¬ len = 0 := by omega
      have hl := hn.loose
      have hr : (row? wr N (36 + k * 21) 21).isSome = true := by rw [hn.fg k hlt]; rfl
      have hNr := hn.lt
      have hbr2 : b < wr.heap.size := by have := hbr.size; omega
      have hj3 : (0 : Int) ≤ (k : Int) := by omega
      have hj4 : (k : Int) < 160 := by omega
      have hnb : b ≠ N := by omega
      have Hn : Hid (Nd wr N _) := hn
      have Hml : Hid (m = k % len) := hml
      clear hn hc ht0 hn1 hml
      go_wp2_with fail
      go_region_held3 (fun w' => w'.cell? ⟨b, off + m, none⟩ = some (.int .u8 (tag m)) ∧ loose w' N = true ∧ (row? w' N (36 + k * 21) 21).isSome = true ∧ N < w'.heap.size ∧ b < w'.heap.size) ((go_split_ands; (try simp only [World.cell?_drewN, World.cell?_drew, row?_drewN, row?_drew, loose_drewN, loose_drew, World.heap_drewN, heapDrew, World.size_alloc, size_setRow, loose_setRow] at *); (refine ⟨?_, ?_, ?_, ?_, ?_⟩) <;> first | (with_reducible assumption) | omega | (with_reducible refine keep_cell2 ?_ ?_ ?_ <;> assumption) | (with_reducible refine keep_loose2 ?_ ?_ <;> assumption) | (with_reducible refine keep_row2 ?_ ?_ <;> assumption) | (with_reducible refine keep_cell ?_ ?_ <;> assumption) | (with_reducible refine keep_loose ?_ ?_ <;> assumption) | (with_reducible refine keep_row ?_ ?_ <;> assumption)))
        (first | (go_at_call 7; refine (peer_any _ _ t0 t1).mono ?_; rintro e w' ⟨rfl, rfl⟩))
      go_wp2
      go_roundw
      case rel =>
        refine ⟨k + 1, by omega, by go_num, ((setRow_below wr hbr hN _ _).alloc (by rw [size_setRow]; have := hbr.size; omega) _).drew, ?_⟩
        rw [← laidF_step]
        have hq := ((Hn.out.setFg k hlt (tg (tag m))).alloc (.cells (pc (tg (tag m))) 27)).drew
        rw [Hml.out] at hq ⊢
        exact hq
      case measure => simp [intOf]; omega
    · have e : k = 160 := by omega
      subst e
      have c1 := hn.fw
      have c2 := hn.fi
      have c3 := hn.pd
      have c4 := hn.sc
      have fr := hn.frozen
      have hNr := hn.lt
      generalize hF : laidF (fun j => tg (tag (j % len))) (tg a0) 160 = F at hn
      have HF : Hid (laidF (fun j => tg (tag (j % len))) (tg a0) 160 = F) := hF
      clear hF
      go_wp2_with (first | (go_at_call 7; refine (peer_any _ _ b10 b11).mono ?_; rintro e w' ⟨rfl, rfl⟩))
      refine (departed_free _ N _ (tg a1) (tg a1) none false (by exact (((((((hn.setFw 3).setFi 5).setPd (.pointer none)).setSc (.slice none 0 0)).alloc _).alloc _).alloc _)) rfl rfl rfl).mono ?_
      rintro e w2 ⟨rfl, ht2, hn2⟩
      have r2 : row? w2 (wr.heap.size + 1 + 1) 0 21 = some (pc (tg a1)) := by
        rw [ht2.row (by simp [go_sem]) (by omega)]
        simp [go_sem]
      have HB2 : Hid (Below w.heap.size w w2) := by
        refine ht2.below (((((((hbr.setCell hN _).setCell hN _).setCell hN _).setCell hN _).alloc ?_ _).alloc ?_ _).alloc ?_ _) hN ?_ <;> (have := hbr.size; simp [go_sem]; omega)
      have hDz : wr.heap.size + 1 + 1 < w2.heap.size := row?_lt r2
      have hwz := hbr.size
      obtain ⟨q3, ⟨hqf, hqw, hqi, hqs⟩, hn3⟩ : ∃ q3 : NS, (q3.fg = forgot F (tg a0) (tg a1) 160 ∧ q3.fw = (if met F (tg a1) 160 then 0 else 3) ∧ q3.fi = (if met F (tg a1) 160 then 0 else 5) ∧ q3.sc = .slice none 0 0) ∧ Nd w2 N q3 := ⟨_, ⟨rfl, rfl, rfl, rfl⟩, hn2⟩
      have HQ : Hid (q3.fg = forgot F (tg a0) (tg a1) 160 ∧ q3.fw = (if met F (tg a1) 160 then 0 else 3) ∧ q3.fi = (if met F (tg a1) 160 then 0 else 5) ∧ q3.sc = .slice none 0 0) := ⟨hqf, hqw, hqi, hqs⟩
      clear ht2 hn fr c1 c2 c3 c4 hbr hn2 hqf hqw hqi hqs hn1
      have hDN : wr.heap.size + 1 + 1 ≠ N := by omega
      go_wp2_with fail
      generalize wr.heap.size + 1 + 1 = D at r2 hDz hDN ⊢
      go_loopw [10, 58] (fun ht i wx => ∃ k : Nat, k ≤ 160 ∧ i = .int .i64 k ∧ ht = .bool (met F (tg a1) k) ∧ Below w.heap.size w wx ∧ row? wx D 0 21 = some (pc (tg a1)) ∧ Nd wx N q3) (fun _ i _ => 160 - (intOf i).toNat)
      case atStart => exact ⟨0, by omega, rfl, rfl, HB2.out, r2, hn3⟩
      case round =>
        obtain ⟨k, hk2, rfl, rfl, hbx, rx, hnx⟩ := hrel
        by_cases hlt2 : k < 160
        · obtain ⟨m, hm, hml⟩ : ∃ m : Nat, ((k : Int) % (len : Int)) = (m : Int) ∧ m = k % len := ⟨k % len, by omega, rfl⟩
          have hmlt : m < len := by rw [hml]; exact Nat.mod_lt _ hlen
          have hm0 : (0 : Int) ≤ (m : Int) := by omega
          have hm1 : (m : Int) < (len : Int) := by omega
          have cm : wr.cell? ⟨b, off + m, none⟩ = some (.int .u8 (tag m)) := (hbx.cell (p := ⟨b, off + m, none⟩) hb).trans (hc m hmlt)
          obtain ⟨t0, t1⟩ := ht0 m hmlt
          have htm : (k : Int).tmod (len : Int) = (m : Int) := by rw [Int.tmod_eq_emod_of_nonneg (by omega)]; exact hm
          have hlz : ¬ len = 0 := by omega
          have hFk : F k = tg (tag m) := by rw [← HF.out, hml]; unfold laidF; rw [if_pos hlt2]
          have hNx := hnx.lt
          have hDx := row?_lt rx
          have hbx2 : b < wr.heap.size := by have := hbx.size; omega
          have cf : row? wr N (36 + k * 21) 21 = some (pc (if 1 ≤ k ∧ tg (tag m) = tg a1 then tg a0 else tg (tag m))) := by
            rw [hnx.fg k hlt2, HQ.out.1]
            unfold forgot
            rw [hFk]
            by_cases g : 1 ≤ k ∧ tg (tag m) = tg a1
            · rw [if_pos ⟨g.1, hlt2, g.2⟩, if_pos g]
            · rw [if_neg (fun g' => g ⟨g'.1, g'.2.2⟩), if_neg g]
          have hj3 : (0 : Int) ≤ (k : Int) := by omega
          have hj4 : (k : Int) < 160 := by omega
          have hnb : b ≠ N := by omega
          have Hmet : Hid (met F (tg a1) (k + 1) = (met F (tg a1) k || (decide (1 ≤ k) && (tg (tag m) == tg a1)))) := by show met F (tg a1) (k + 1) = _; rw [← hFk]; rfl
          have Hn : Hid (Nd wr N q3) := hnx
          clear hnx hc ht0 hml hFk
          by_cases g1 : 1 ≤ k
          · have g1i : (1 : Int) ≤ (k : Int) := by omega
            by_cases g2 : tg (tag m) = tg a1
            · rw [if_pos ⟨g1, g2⟩] at cf
              have g2b : (tg (tag m) == tg a1) = true := by simpa using g2
              clear g2
              go_wp2_with (first | (go_at_call_of 7 (a0); refine (peer_any _ _ b00 b01).mono ?_; rintro e w' ⟨rfl, rfl⟩) | (go_at_call 7; refine (peer_any _ _ t0 t1).mono ?_; rintro e w' ⟨rfl, rfl⟩))
              go_quiet (fail)
              go_wp2_with fail
              go_roundw
              case rel =>
                refine carry hbx rx Hn.out (by refine below_dN ?_ _; repeat (refine Below.alloc ?_ (by first | omega | (simp only [World.size_alloc]; omega)) _)
                                               exact Below.refl _ _) fun h1 h2 h3 => ⟨k + 1, by omega, by go_num, ?_, h1, h2, h3⟩
                rw [Hmet.out]
                simp [g1, g2b]
              case measure => simp [intOf]; omega
            · rw [if_neg (fun g => g2 g.2)] at cf
              have g2b : (tg (tag m) == tg a1) = false := by simpa using g2
              clear g2
              go_wp2_with (first | (go_at_call_of 7 (a0); refine (peer_any _ _ b00 b01).mono ?_; rintro e w' ⟨rfl, rfl⟩) | (go_at_call 7; refine (peer_any _ _ t0 t1).mono ?_; rintro e w' ⟨rfl, rfl⟩))
              go_quiet (fail)
              go_wp2_with fail
              go_roundw
              case rel =>
                refine carry hbx rx Hn.out (by refine below_dN ?_ _; repeat (refine Below.alloc ?_ (by first | omega | (simp only [World.size_alloc]; omega)) _)
                                               exact Below.refl _ _) fun h1 h2 h3 => ⟨k + 1, by omega, by go_num, ?_, h1, h2, h3⟩
                rw [Hmet.out]
                simp [g2b]
              case measure => simp [intOf]; omega
          · have g1i : decide ((1 : Int) ≤ (k : Int)) = false := by simp; omega
            rw [if_neg (fun g => g1 g.1)] at cf
            go_wp2_with (first | (go_at_call_of 7 (a0); refine (peer_any _ _ b00 b01).mono ?_; rintro e w' ⟨rfl, rfl⟩) | (go_at_call 7; refine (peer_any _ _ t0 t1).mono ?_; rintro e w' ⟨rfl, rfl⟩))
            go_quiet (fail)
            go_wp2_with fail
            go_roundw
            case rel =>
              refine carry hbx rx Hn.out (by refine below_dN ?_ _; repeat (refine Below.alloc ?_ (by first | omega | (simp only [World.size_alloc]; omega)) _)
                                             exact Below.refl _ _) fun h1 h2 h3 => ⟨k + 1, by omega, by go_num, ?_, h1, h2, h3⟩
              rw [Hmet.out]
              simp [g1]
            case measure => simp [intOf]; omega
        · have e : k = 160 := by omega
          subst e
          have e1 := hnx.fw
          have e2 := hnx.fi
          have e3 := hnx.sc
          rw [HQ.out.2.1] at e1
          rw [HQ.out.2.2.1] at e2
          rw [HQ.out.2.2.2] at e3
          clear hnx hc ht0
          cases hmt : met F (tg a1) 160
          · rw [hmt] at e1 e2
            simp only [Bool.false_eq_true, if_false] at e1 e2
            go_wp2_with fail
            go_ret
            exact ⟨rfl, hbx⟩
          · rw [hmt] at e1 e2
            simp only [if_true] at e1 e2
            go_wp2_with fail
            go_ret
            exact ⟨rfl, hbx⟩

set_option maxRecDepth 100000 in
set_option maxHeartbeats 4000000 in
theorem fing_nil (w : World) (a0 a1 : Int) (a : Option Addr) (cap : Nat) (b00 : 0 ≤ a0) (b01 : a0 ≤ 255) (b10 : 0 ≤ a1) (b11 : a1 ≤ 255) :
    Calls Yba.prog 5 #[.int .u8 a0, .int .u8 a1, .slice a 0 cap] w fun e w' => e = .returned (.bool true) ∧ Below w.heap.size w w' := by
  go_enter Yba.func5, Yba.ntmps5
  go_wp2_with fail
  refine (node_any _ a0 3 2 b00 b01 (by decide) (by decide) (by decide) (by decide)).mono ?_
  rintro e wr ⟨N, M, pd, pl, rfl, hN, hM, hbr, hn⟩
  have hNlt := hn.lt
  go_wp2_with fail
  go_loop [18] (fun i => ∃ k : Nat, k ≤ 160 ∧ i = .int .i64 k) (fun i => 160 - (intOf i).toNat)
  case atStart => exact ⟨0, by omega, rfl⟩
  case round =>
    obtain ⟨k, hk, rfl⟩ := hrel
    by_cases hlt : k < 160
    · go_wp2_with fail
      go_round
      case rel => exact ⟨k + 1, by omega, by go_num⟩
      case measure => simp [intOf]; omega
    · have e : k = 160 := by omega
      subst e
      have c1 := hn.fw
      have c2 := hn.fi
      have c3 := hn.pd
      have c4 := hn.sc
      have fr := hn.frozen
      go_wp2_with (first | (go_at_call 7; refine (peer_any _ _ b10 b11).mono ?_; rintro e w' ⟨rfl, rfl⟩))
      refine (departed_free _ N _ (tg a1) (tg a1) none false (by exact (((((((hn.setFw 3).setFi 5).setPd (.pointer none)).setSc (.slice none 0 0)).alloc _).alloc _).alloc _)) rfl rfl rfl).mono ?_
      rintro e w2 ⟨rfl, ht2, hn2⟩
      have r2 : row? w2 (wr.heap.size + 1 + 1) 0 21 = some (pc (tg a1)) := by
        rw [ht2.row (by simp [go_sem]) (by omega)]
        simp [go_sem]
      have HB2 : Hid (Below w.heap.size w w2) := by
        refine ht2.below (((((((hbr.setCell hN _).setCell hN _).setCell hN _).setCell hN _).alloc ?_ _).alloc ?_ _).alloc ?_ _) hN ?_ <;> (have := hbr.size; simp [go_sem]; omega)
      have hDz : wr.heap.size + 1 + 1 < w2.heap.size := row?_lt r2
      have hwz := hbr.size
      obtain ⟨q3, ⟨hqf, hqw, hqi, hqs⟩, hn3⟩ : ∃ q3 : NS, (q3.fg = forgot (fun _ => tg a0) (tg a0) (tg a1) 160 ∧ q3.fw = (if met (fun _ => tg a0) (tg a1) 160 then 0 else 3) ∧ q3.fi = (if met (fun _ => tg a0) (tg a1) 160 then 0 else 5) ∧ q3.sc = .slice none 0 0) ∧ Nd w2 N q3 := ⟨_, ⟨rfl, rfl, rfl, rfl⟩, hn2⟩
      have HQ : Hid (q3.fg = forgot (fun _ => tg a0) (tg a0) (tg a1) 160 ∧ q3.fw = (if met (fun _ => tg a0) (tg a1) 160 then 0 else 3) ∧ q3.fi = (if met (fun _ => tg a0) (tg a1) 160 then 0 else 5) ∧ q3.sc = .slice none 0 0) := ⟨hqf, hqw, hqi, hqs⟩
      clear ht2 hn fr c1 c2 c3 c4 hbr hn2 hqf hqw hqi hqs
      have hDN : wr.heap.size + 1 + 1 ≠ N := by omega
      go_wp2_with fail
      generalize wr.heap.size + 1 + 1 = D at r2 hDz hDN ⊢
      go_loopw [10, 58] (fun ht i wx => ∃ k : Nat, k ≤ 160 ∧ i = .int .i64 k ∧ ht = .bool (met (fun _ => tg a0) (tg a1) k) ∧ Below w.heap.size w wx ∧ row? wx D 0 21 = some (pc (tg a1)) ∧ Nd wx N q3) (fun _ i _ => 160 - (intOf i).toNat)
      case atStart => exact ⟨0, by omega, rfl, rfl, HB2.out, r2, hn3⟩
      case round =>
        obtain ⟨k, hk2, rfl, rfl, hbx, rx, hnx⟩ := hrel
        by_cases hlt2 : k < 160
        · have hNx := hnx.lt
          have hDx := row?_lt rx
          have cf : row? wr N (36 + k * 21) 21 = some (pc (tg a0)) := by
            rw [hnx.fg k hlt2, HQ.out.1]
            unfold forgot
            split <;> rfl
          have hj3 : (0 : Int) ≤ (k : Int) := by omega
          have hj4 : (k : Int) < 160 := by omega
          have Hmet : Hid (met (fun _ => tg a0) (tg a1) (k + 1) = (met (fun _ => tg a0) (tg a1) k || (decide (1 ≤ k) && (tg a0 == tg a1)))) := by show met (fun _ => tg a0) (tg a1) (k + 1) = _; rfl
          have Hn : Hid (Nd wr N q3) := hnx
          clear hnx
          by_cases g1 : 1 ≤ k
          · have g1i : (1 : Int) ≤ (k : Int) := by omega
            by_cases g2 : tg a0 = tg a1
            · have g2b : (tg a0 == tg a1) = true := by simpa using g2
              clear g2
              go_wp2_with (go_at_call 7; refine (peer_any _ _ b00 b01).mono ?_; rintro e w' ⟨rfl, rfl⟩)
              go_quiet (fail)
              go_wp2_with fail
              go_roundw
              case rel =>
                refine carry hbx rx Hn.out (by refine below_dN ?_ _; repeat (refine Below.alloc ?_ (by first | omega | (simp only [World.size_alloc]; omega)) _)
                                               exact Below.refl _ _) fun h1 h2 h3 => ⟨k + 1, by omega, by go_num, ?_, h1, h2, h3⟩
                rw [Hmet.out]
                simp [g1, g2b]
              case measure => simp [intOf]; omega
            · have g2b : (tg a0 == tg a1) = false := by simpa using g2
              clear g2
              go_wp2_with (go_at_call 7; refine (peer_any _ _ b00 b01).mono ?_; rintro e w' ⟨rfl, rfl⟩)
              go_quiet (fail)
              go_wp2_with fail
              go_roundw
              case rel =>
                refine carry hbx rx Hn.out (by refine below_dN ?_ _; repeat (refine Below.alloc ?_ (by first | omega | (simp only [World.size_alloc]; omega)) _)
                                               exact Below.refl _ _) fun h1 h2 h3 => ⟨k + 1, by omega, by go_num, ?_, h1, h2, h3⟩
                rw [Hmet.out]
                simp [g2b]
              case measure => simp [intOf]; omega
          · have g1i : decide ((1 : Int) ≤ (k : Int)) = false := by simp; omega
            go_wp2_with (go_at_call 7; refine (peer_any _ _ b00 b01).mono ?_; rintro e w' ⟨rfl, rfl⟩)
            go_quiet (fail)
            go_wp2_with fail
            go_roundw
            case rel =>
              refine carry hbx rx Hn.out (by refine below_dN ?_ _; repeat (refine Below.alloc ?_ (by first | omega | (simp only [World.size_alloc]; omega)) _)
                                             exact Below.refl _ _) fun h1 h2 h3 => ⟨k + 1, by omega, by go_num, ?_, h1, h2, h3⟩
              rw [Hmet.out]
              simp [g1]
            case measure => simp [intOf]; omega
        · have e : k = 160 := by omega
          subst e
          have e1 := hnx.fw
          have e2 := hnx.fi
          have e3 := hnx.sc
          rw [HQ.out.2.1] at e1
          rw [HQ.out.2.2.1] at e2
          rw [HQ.out.2.2.2] at e3
          clear hnx
          cases hmt : met (fun _ => tg a0) (tg a1) 160
          · rw [hmt] at e1 e2
            simp only [Bool.false_eq_true, if_false] at e1 e2
            go_wp2_with fail
            go_ret
            exact ⟨rfl, hbx⟩
          · rw [hmt] at e1 e2
            simp only [if_true] at e1 e2
            go_wp2_with fail
            go_ret
            exact ⟨rfl, hbx⟩

set_option maxRecDepth 100000 in
theorem fing_big (w : World) (a0 a1 : Int) (a : Option Addr) (len cap : Nat) (hbig : 1024 < len) (hl : len ≤ maxLen) :
    Calls Yba.prog 5 #[.int .u8 a0, .int .u8 a1, .slice a len cap] w fun e w' => e = .returned (.bool true) ∧ Below w.heap.size w w' := by
  unfold maxLen at hl
  go_enter Yba.func5, Yba.ntmps5
  go_wp2
  go_ret
  exact ⟨rfl, Below.refl _ _⟩
end Go.Proofs.Ybulkbsys
