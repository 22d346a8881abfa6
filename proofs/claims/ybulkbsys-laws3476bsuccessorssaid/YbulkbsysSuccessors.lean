/-
  RINGHOP: LawS3476BSuccessors, walked.
-/
import Derived.Test.YbulkbsysNodeFn
import Derived.Test.YbulkbsysDepartedAny
import Derived.Test.YbulkbsysSucclist
import Derived.Test.YbulkbsysParts
import Derived.Deep.DrawnRows
namespace Go.Proofs.Ybulkbsys
open Go.RowKit Go.MuLone
attribute [local go_sem ↓] ld27 ld25 ld51 st27 st51 al27 al51 bx27 bx51 bx49 bd25 bd27 bd51 bd49 eq27 ne27 eq25 eg27 eg25 pc_addr dpc_pred dpc_rec
attribute [local go_sem] run_ld27 run_ld25 run_ld51 ldOut_some stOut_true run_st27 run_st51 run_al27 run_al51 run_bxRow run_bd25 run_bd27 run_bd51 run_bd51b run_eg27e run_eg27n run_eg25e run_eq27 run_ne27 run_eq25 ad_beq ad_bne ad_fold
attribute [local go_sem] row?_drew loose_drew row?_alloc_past loose_alloc_past row?_alloc_at loose_alloc_at size_setRow loose_setRow loose_setCell row?_setRow_same row?_setRow cell?_setRow frozen?_setRow row?_setCell setRow_drew setRow_alloc_past setRow_alloc_at
attribute [local go_sem] size_pc size_idc size_z27 size_z51 size_dpc single_pc single_z27 single_dpc dpc_node dpc_succ dpc_all pc_id pc_all pc_pop
attribute [local go_sem] row?_drewN loose_drewN alloc_drewN setCell_drewN setRow_drewN
attribute [local go_sem] cell?_alloc_ite newCell_cells frozen?_alloc_ite' row?_alloc_ite newRow?_cells loose_alloc_ite setCell_alloc_ite setNew_cells setRow_alloc_ite layNew_cells
attribute [local go_sem ↓] mk45
set_option linter.unusedVariables false
set_option linter.unusedSimpArgs false
theorem keepA {w : World} {A o : Nat} {c : Array Value} {ob : Obj} (h1 : row? w A o 21 = some c) (h2 : A < w.heap.size) : row? (w.alloc ob) A o 21 = some c ∧ A < (w.alloc ob).heap.size := ⟨(row?_alloc_past _ _ _ _ _ h2).trans h1, by rw [World.size_alloc]; omega⟩
theorem keepB {w : World} {A o : Nat} {c : Array Value} {ob : Obj} (h1 : row? w A o 21 = some c) (h2 : A < w.heap.size) : row? (w.alloc ob).drew A o 21 = some c ∧ A < (w.alloc ob).drew.heap.size := keepA h1 h2
theorem keepD {Z w' : World} {B X D N : Nat} {c c2 : Array Value} {v : Value} (hb : Below B Z w') (hX : X < B) (hD : D < B) (hN : N < B) (h1 : row? Z X 0 21 = some c) (h2 : row? Z D 22 21 = some c2) (h3 : Z.cell? ⟨N, 22, none⟩ = some v) : row? w' X 0 21 = some c ∧ row? w' D 22 21 = some c2 ∧ w'.cell? ⟨N, 22, none⟩ = some v :=
  ⟨(row?_of_block (hb.block X hX) _ _).trans h1, (row?_of_block (hb.block D hD) _ _).trans h2, (hb.cell (p := ⟨N, 22, none⟩) hN).trans h3⟩
theorem keepE {Z w' : World} {B X N : Nat} {v v2 : Value} (hb : Below B Z w') (hX : X < B) (hN : N < B) (h1 : Z.cell? ⟨X, 20, none⟩ = some v) (h2 : Z.cell? ⟨N, 23, none⟩ = some v2) : w'.cell? ⟨X, 20, none⟩ = some v ∧ w'.cell? ⟨N, 23, none⟩ = some v2 :=
  ⟨(hb.cell (p := ⟨X, 20, none⟩) hX).trans h1, (hb.cell (p := ⟨N, 23, none⟩) hN).trans h2⟩
theorem keepF {Z : World} {n X N : Nat} {v v2 : Value} (h1 : Z.cell? ⟨X, 20, none⟩ = some v) (h2 : Z.cell? ⟨N, 23, none⟩ = some v2) : (Z.drewN n).cell? ⟨X, 20, none⟩ = some v ∧ (Z.drewN n).cell? ⟨N, 23, none⟩ = some v2 := ⟨h1, h2⟩
theorem undrew {Z w' : World} (h : Below Z.drew.heap.size Z.drew w') : Below Z.heap.size Z w' := ⟨h.os, h.tape, h.output, h.size, h.block⟩
set_option maxRecDepth 100000 in
set_option maxHeartbeats 8000000 in
theorem succ_some (w : World) (a0 a1 a2 a3 a4 : Int) (ain : Option Addr) (n cap : Nat) (tag : Nat → Int) (fl : Bool) (b00 : 0 ≤ a0) (b01 : a0 ≤ 255) (b10 : 0 ≤ a1) (b11 : a1 ≤ 255) (b20 : 0 ≤ a2) (b21 : a2 ≤ 255) (b30 : 0 ≤ a3) (b31 : a3 ≤ 255) (b40 : 0 ≤ a4) (b41 : a4 ≤ 255) (hbig : n ≤ 300)
    (hc : ∀ i, i < n → ∃ b off, ain = some ⟨b, off, none⟩ ∧ b < w.heap.size ∧ w.cell? ⟨b, off + i, none⟩ = some (.int .u8 (tag i))) (ht0 : ∀ i, i < n → 0 ≤ tag i ∧ tag i ≤ 255) :
    Calls Yba.prog 4 #[.int .u8 a0, .int .u8 a1, .int .u8 a2, .int .u8 a3, .int .u8 a4, .slice ain n cap, .bool fl] w fun e w' => e = .returned (.bool true) ∧ Below w.heap.size w w' := by
  have hn3 : decide ((300 : Int) < (n : Int)) = false := by simp; omega
  have hmk := run_mk45 n (by omega)
  have hn1 : (n : Int) ≤ 300 := by omega
  go_enter Yba.func4, Yba.ntmps4
  go_wp2_with fail
  refine (node_any _ a0 a1 a2 b00 b01 b10 b11 b20 b21).mono ?_
  rintro e w1 ⟨N, M, pd, pl, rfl, hN, hM, hb1, hn1⟩
  have m0 : 1 ≤ 1 + a1 % 5 := by omega
  have m1 : 1 + a1 % 5 ≤ 1000 := by omega
  have r0 : 1 ≤ 1 + a2 % (1 + a1 % 5 + 1) := by have := Int.emod_nonneg a2 (show (1 + a1 % 5 + 1) ≠ 0 by omega); omega
  have r1 : 1 + a2 % (1 + a1 % 5 + 1) ≤ 1000 := by have := Int.emod_lt_of_pos a2 (show 0 < (1 + a1 % 5 + 1) by omega); omega
  generalize 1 + a2 % (1 + a1 % 5 + 1) = r at *
  generalize 1 + a1 % 5 = mx at *
  have hNlt := hn1.lt
  have fr := hn1.frozen
  have c1 := hn1.pd
  have c2 := hn1.sy
  have HN2 : Hid (Nd ((w1.setCell ⟨N, 3398, none⟩ (.pointer none)).setCell ⟨N, 31, none⟩ (.bool fl)) N { NS.new (tg a0) mx r M (.pointer none) pl with sy := fl }) := (hn1.setPd (.pointer none)).setSy fl
  have HB2 : Hid (Below w.heap.size w ((w1.setCell ⟨N, 3398, none⟩ (.pointer none)).setCell ⟨N, 31, none⟩ (.bool fl))) := (hb1.setCell hN _).setCell hN _
  clear hb1 hn1
  go_wp2_with fail
  have hz0 : ((w1.setCell ⟨N, 3398, none⟩ (.pointer none)).setCell ⟨N, 31, none⟩ (.bool fl)).heap.size = w1.heap.size := by simp [World.setCell]
  generalize (w1.setCell ⟨N, 3398, none⟩ (.pointer none)).setCell ⟨N, 31, none⟩ (.bool fl) = W0 at HN2 HB2 hz0 ⊢
  clear fr c1 c2
  generalize w1.heap.size = A at hz0 hNlt ⊢
  have hNA := hNlt
  clear hNlt
  have hwA : w.heap.size ≤ A := by have := HB2.out.size; omega
  go_loopw [51] (fun i wr => ∃ k : Nat, k ≤ n ∧ i = .int .i64 k ∧ Below A W0 wr ∧ Part wr A n k (fun i => tg (tag i)) ∧ Part wr (A + 1) n k (fun i => tg (tag i))) (fun i _ => n - (intOf i).toNat)
  case atStart =>
    refine ⟨0, by omega, rfl, ((Below.refl _ _).alloc (by omega) _).alloc (by simp only [World.size_alloc]; omega) _, ?_, ?_⟩
    · have := (Part.new W0 n (fun i => tg (tag i))).alloc (.cells (mkc n) 27)
      rw [hz0] at this
      exact this
    · have := Part.new (W0.alloc (.cells (mkc n) 27)) n (fun i => tg (tag i))
      rw [World.size_alloc, hz0] at this
      exact this
  case round =>
    obtain ⟨k, hk, rfl, hbr, pA, pB⟩ := hrel
    by_cases hlt : k < n
    · obtain ⟨b, off, rfl, hb, hcell⟩ := hc k hlt
      obtain ⟨t0, t1⟩ := ht0 k hlt
      have cm : wr.cell? ⟨b, off + k, none⟩ = some (.int .u8 (tag k)) := ((HB2.out.trans (hbr.mono hwA)).cell (p := ⟨b, off + k, none⟩) hb).trans hcell
      have lA := pA.2.1
      have lB := pB.2.1
      have sA := pA.1
      have sB := pB.1
      have eA := pA.at hlt
      have eB := pB.at hlt
      have hj3 : (0 : Int) ≤ (k : Int) := by omega
      have hj4 : (k : Int) < (n : Int) := by omega
      have hbA : b ≠ A := by omega
      have hbB : b ≠ A + 1 := by omega
      have hbz : b < wr.heap.size := by omega
      have PA : Hid (Part wr A n k (fun i => tg (tag i))) := pA
      have PB : Hid (Part wr (A + 1) n k (fun i => tg (tag i))) := pB
      clear pA pB hc ht0 hcell hmk
      go_wp2_with (go_at_call 7; refine (peer_any _ _ t0 t1).mono ?_; rintro e w' ⟨rfl, rfl⟩)
      go_roundw
      case rel =>
        refine ⟨k + 1, by omega, by go_num, ?_, ?_, ?_⟩
        · exact ((setRow_below _ (setRow_below _ hbr (Nat.le_refl A) _ _) (by omega) _ _).alloc (by simp only [size_setRow]; omega) _).alloc (by simp only [World.size_alloc, size_setRow]; omega) _
        · exact (((PA.out.put hlt).other (by omega)).alloc _).alloc _
        · exact (((PB.out.other (by omega)).put hlt).alloc _).alloc _
      case measure => simp [intOf]; omega
    · have e : n = k := by omega
      subst e
      obtain ⟨xs, hxl, hget, hLA, hLB⟩ : ∃ xs : List (Fin 8), xs.length = n ∧ (∀ i (h : i < xs.length), xs[i] = tg (tag i)) ∧ Lst wr N (some ⟨A, 0, none⟩) xs ∧ Lst wr N (some ⟨A + 1, 0, none⟩) xs :=
        ⟨lst (fun i => tg (tag i)) n, length_lst _ _, fun i h => get_lst _ _ _ h, pA.lst (by omega), pB.lst (by omega)⟩
      subst hxl
      have hn : Nd wr N { NS.new (tg a0) mx r M (.pointer none) pl with sy := fl } := HN2.out.grown (by rw [hz0]; exact hbr)
      have HBr : Hid (Below w.heap.size w wr) := HB2.out.trans (hbr.mono hwA)
      have fr := hn.frozen
      have c35 := hn.sc
      have c34 : wr.cell? ⟨N, 3404, none⟩ = some (.int .i64 0) := hn.dp
      have c23 : wr.cell? ⟨N, 23, none⟩ = some (.int .i64 r) := hn.rp
      have hNr := hn.lt
      have HC : Hid (∀ i, i < xs.length → ∃ b off, ain = some ⟨b, off, none⟩ ∧ b < w.heap.size ∧ w.cell? ⟨b, off + i, none⟩ = some (.int .u8 (tag i))) := hc
      have HT0 : Hid (∀ i, i < xs.length → 0 ≤ tag i ∧ tag i ≤ 255) := ht0
      have Hget : Hid (∀ i (h : i < xs.length), xs[i] = tg (tag i)) := hget
      have HLA : Hid (Lst wr N (some ⟨A, 0, none⟩) xs) := hLA
      have HLB : Hid (Lst wr N (some ⟨A + 1, 0, none⟩) xs) := hLB
      have HN3 : Hid (Nd (wr.setCell ⟨N, 35, none⟩ (.slice (some ⟨A, 0, none⟩) xs.length xs.length)) N { NS.new (tg a0) mx r M (.pointer none) pl with sy := fl, sc := .slice (some ⟨A, 0, none⟩) xs.length xs.length }) := hn.setSc _
      clear hn hbr pA pB hLA hLB hc ht0 hget hmk HN2 HB2 hz0 hlt hk
      go_wp2_with (go_at_call 7; refine (peer_any _ _ b00 b01).mono ?_; rintro e w' ⟨rfl, rfl⟩)
      have HNV : Hid (Nd (((wr.setCell ⟨N, 35, none⟩ (.slice (some ⟨A, 0, none⟩) xs.length xs.length)).alloc (.cells (pc (tg a0)) 27)).alloc (.cells (pc (tg a0)) 27)) N _) := (HN3.out.alloc _).alloc _
      have HTV : Turn N wr (((wr.setCell ⟨N, 35, none⟩ (.slice (some ⟨A, 0, none⟩) xs.length xs.length)).alloc (.cells (pc (tg a0)) 27)).alloc (.cells (pc (tg a0)) 27)) := (((Turn.refl _ _).setCell _ _).alloc _).alloc _
      have HLA2 := HLA.out.turn HTV
      have HLB2 := HLB.out.turn HTV
      have HBV : Below w.heap.size w (((wr.setCell ⟨N, 35, none⟩ (.slice (some ⟨A, 0, none⟩) xs.length xs.length)).alloc (.cells (pc (tg a0)) 27)).alloc (.cells (pc (tg a0)) 27)) := HTV.below HBr.out hN HBr.out.size
      have rX : row? (((wr.setCell ⟨N, 35, none⟩ (.slice (some ⟨A, 0, none⟩) xs.length xs.length)).alloc (.cells (pc (tg a0)) 27)).alloc (.cells (pc (tg a0)) 27)) (wr.heap.size + 1) 0 21 = some (pc (tg a0)) := row_newC _ _ _ (by simp [World.setCell])
      have hXN : wr.heap.size + 1 ≠ N := by omega
      clear HLA HLB HN3 HBr HTV c35 c34 c23 fr
      generalize ((wr.setCell ⟨N, 35, none⟩ (.slice (some ⟨A, 0, none⟩) xs.length xs.length)).alloc (.cells (pc (tg a0)) 27)).alloc (.cells (pc (tg a0)) 27) = V at HNV HLA2 HLB2 HBV rX ⊢
      clear hNr
      generalize wr.heap.size + 1 = X at rX hXN ⊢
      have HLA : Hid (Lst V N (some ⟨A, 0, none⟩) xs) := HLA2
      have HLB : Hid (Lst V N (some ⟨A + 1, 0, none⟩) xs) := HLB2
      clear HLA2 HLB2
      have cX : V.cell? ⟨X, 20, none⟩ = some (.string (ad (tg a0))) := by have := row?_cell rX (j := 20) (by omega); simpa only [Nat.zero_add, pc_addr] using this
      have cR : V.cell? ⟨N, 23, none⟩ = some (.int .i64 r) := HNV.out.rp
      have hXV := row?_lt rX
      have hNV := HNV.out.lt
      go_region_held3 (fun w' => w'.cell? ⟨X, 20, none⟩ = some (.string (ad (tg a0))) ∧ w'.cell? ⟨N, 23, none⟩ = some (.int .i64 r)) ((go_split_ands; (refine ⟨?_, ?_⟩) <;> first | assumption | exact (hb9.cell hXV).trans (by assumption) | exact (hb9.cell hNV).trans (by assumption)))
            (first | (go_at_call 9; refine (holders_any _ N (some ⟨A + 1, 0, none⟩) xs.length xs (tg a0) r (HLB.out.below (Below.refl _ _).drew (Nat.le_refl _)) (by omega) r0 r1 hNV).mono ?_; rintro e w' ⟨v9, rfl, hown9, hb9⟩))
      have hbx : Below V.heap.size V w' := ⟨hb9.os, hb9.tape, hb9.output, hb9.size, hb9.block⟩
      obtain ⟨a9, c9, rfl, hl9⟩ := hown9.lst (N := N) hNV
      have HL9 : Hid (Lst w' N a9 (holds (tg a0) r [] xs)) := hl9
      have HNW : Hid (Nd w' N _) := HNV.out.grown hbx
      have HLA3 : Hid (Lst w' N (some ⟨A, 0, none⟩) xs) := HLA.out.below hbx (Nat.le_refl _)
      have HLB3 : Hid (Lst w' N (some ⟨A + 1, 0, none⟩) xs) := HLB.out.below hbx (Nat.le_refl _)
      have HBW : Hid (Below w.heap.size w w') := HBV.trans (hbx.mono HBV.size)
      have rX' : row? w' X 0 21 = some (pc (tg a0)) := (row?_of_block (hbx.block X hXV) _ _).trans rX
      have hXW := row?_lt rX'
      have hNW := HNW.out.lt
      rename_i hHeld
      clear hHeld hb9 hbx hown9 hl9 HNV HLA HLB HBV rX cX cR hXV hNV
      generalize w' = U at *
      go_wp2_with (first | (go_at_call_of 7 (a3); refine (peer_any _ _ b30 b31).mono ?_; rintro e w' ⟨rfl, rfl⟩) | (go_at_call 7; refine (peer_any _ _ b40 b41).mono ?_; rintro e w' ⟨rfl, rfl⟩))
      refine (departed_any _ N _ (tg a3) (tg a4) none false (some ⟨A, 0, none⟩) xs.length xs (((HNW.out.alloc _).alloc _).alloc _) rfl rfl rfl (HLA3.out.below ((((Below.refl _ _).alloc (Nat.le_refl _) _).alloc (by simp only [World.size_alloc]; omega) _).alloc (by simp only [World.size_alloc]; omega) _) (Nat.le_refl _)) (by omega) rfl m0 m1 r0 r1 (show (0 : Int) ≤ 0 by omega) (show (0 : Int) ≤ 1000 by omega)).mono ?_
      rintro e w2 ⟨rfl, ht2, q2, a2', c2', zs, hn2, hsc2, hlz, hmx2, hrp2, hs2, haf⟩
      have haf' : (less (tg a3) xs = xs ∧ zs = xs ∧ q2.dp = 0 ∧ q2.sy = fl) ∨ ∃ ys, xs = tg a3 :: ys ∧ zs = succs (tg a0) mx [] (tg a4 :: less (tg a4) ys) ∧ q2.dp = 0 + 1 ∧ q2.sy = (fl && (holds (tg a0) r [] zs == holds (tg a0) r [] xs)) := haf
      have hmx' : q2.mx = mx := hmx2
      have hrp' : q2.rp = r := hrp2
      have HAF : Hid ((less (tg a3) xs = xs ∧ zs = xs ∧ q2.dp = 0 ∧ q2.sy = fl) ∨ ∃ ys, xs = tg a3 :: ys ∧ zs = succs (tg a0) mx [] (tg a4 :: less (tg a4) ys) ∧ q2.dp = 0 + 1 ∧ q2.sy = (fl && (holds (tg a0) r [] zs == holds (tg a0) r [] xs))) := haf'
      have HQ : Hid (q2.mx = mx ∧ q2.rp = r ∧ q2.sc = .slice a2' zs.length c2') := ⟨hmx', hrp', hsc2⟩
      have bU : Below U.heap.size U (((U.alloc (.cells (pc (tg a3)) 27)).alloc (.cells (pc (tg a4)) 27)).alloc (.cells (dpc (tg a3) (.pointer none) (tg a4) false) 51)) := (((Below.refl _ _).alloc (Nat.le_refl _) _).alloc (by simp only [World.size_alloc]; omega) _).alloc (by simp only [World.size_alloc]; omega) _
      have tU : Turn N U w2 := (Turn.of_below bU).trans ht2
      have rD : row? w2 (U.heap.size + 1 + 1) 0 44 = some (dpc (tg a3) (.pointer none) (tg a4) false) := by
        rw [ht2.row (by simp only [World.size_alloc]; omega) (by omega), row?_alloc_at _ _ _ _ _ _ (by simp only [World.size_alloc]), if_pos (by rw [size_dpc]; omega)]
        exact congrArg some (dpc_all _ _ _ _)
      have HBW2 : Hid (Below w.heap.size w w2) := tU.below HBW.out hN HBW.out.size
      have HLA : Hid (Lst w2 N (some ⟨A, 0, none⟩) xs) := HLA3.out.turn tU
      have HLB : Hid (Lst w2 N (some ⟨A + 1, 0, none⟩) xs) := HLB3.out.turn tU
      have HLz : Hid (Lst w2 N a2' zs) := hlz
      have HL : Hid (Lst w2 N a9 (holds (tg a0) r [] xs)) := HL9.out.turn tU
      have RX : Hid (row? w2 X 0 21 = some (pc (tg a0))) := (tU.row hXW hXN _ _).trans rX'
      have RD : Hid (row? w2 (U.heap.size + 1 + 1) 0 44 = some (dpc (tg a3) (.pointer none) (tg a4) false)) := rD
      have HN2 : Hid (Nd w2 N q2) := hn2
      have hDN : U.heap.size + 1 + 1 ≠ N := by omega
      clear HNW HLA3 HLB3 HBW rX' hXW hNW bU tU rD hlz hn2 ht2 haf haf' hmx2 hrp2 hs2 hmx' hrp' hsc2 HL9
      generalize U.heap.size + 1 + 1 = D at *
      go_wp2_with fail
      have hw2 := HBW2.out.size
      go_loopw [95] (fun i wx => ∃ k : Nat, k ≤ xs.length ∧ i = .int .i64 k ∧ Below w2.heap.size w2 wx) (fun i _ => xs.length - (intOf i).toNat)
      case atStart => exact ⟨0, by omega, rfl, Below.refl _ _⟩
      case round =>
        obtain ⟨k, hk, rfl, hbr⟩ := hrel
        by_cases hlt : k < xs.length
        · obtain ⟨b, off, rfl, hb, hcell⟩ := HC.out k hlt
          obtain ⟨t0, t1⟩ := HT0.out k hlt
          have cm : wr.cell? ⟨b, off + k, none⟩ = some (.int .u8 (tag k)) := ((HBW2.out.trans (hbr.mono hw2)).cell (p := ⟨b, off + k, none⟩) hb).trans hcell
          obtain ⟨g', o', ho, hg', _, rA0⟩ := HLA.out k hlt
          simp only [Option.some.injEq, Addr.mk.injEq, and_true] at ho
          obtain ⟨rfl, rfl⟩ := ho
          rw [Nat.zero_add, Hget.out k hlt] at rA0
          have rA : row? wr A (k * 21) 21 = some (pc (tg (tag k))) := (row?_of_block (hbr.block A hg') _ _).trans rA0
          have hj3 : (0 : Int) ≤ (k : Int) := by omega
          have hj4 : (k : Int) < (xs.length : Int) := by omega
          have hAz := row?_lt rA
          have hbz : b < wr.heap.size := by have := hbr.size; omega
          clear hcell rA0
          go_wp2_with fail
          go_region_held3 (fun w' => row? w' A (k * 21) 21 = some (pc (tg (tag k))) ∧ A < w'.heap.size) ((go_split_ands; first | (refine ⟨?_, ?_⟩ <;> assumption) | (refine keepA ?_ ?_ <;> assumption) | (refine keepB ?_ ?_ <;> assumption)))
            (first | (go_at_call 7; refine (peer_any _ _ t0 t1).mono ?_; rintro e w' ⟨rfl, rfl⟩))
          go_wp2_with fail
          go_roundw
          case rel => exact ⟨k + 1, by omega, by go_num, (hbr.alloc hbr.size _).drew⟩
          case measure => simp [intOf]; omega
        · have e : k = xs.length := by omega
          subst e
          have rX : row? wr X 0 21 = some (pc (tg a0)) := (row?_of_block (hbr.block X (row?_lt RX.out)) _ _).trans RX.out
          have rD : row? wr D 0 44 = some (dpc (tg a3) (.pointer none) (tg a4) false) := (row?_of_block (hbr.block D (row?_lt RD.out)) _ _).trans RD.out
          have d0 : row? wr D 0 21 = some (pc (tg a3)) := by have := row?_sub rD 0 21 (by omega); simpa only [Nat.zero_add, Nat.add_zero, dpc_node] using this
          have d2 : row? wr D 22 21 = some (pc (tg a4)) := by have := row?_sub rD 22 21 (by omega); rw [Nat.zero_add, dpc_succ] at this; exact this
          have hn := HN2.out.grown hbr
          have hNz := hn.lt
          have cX : wr.cell? ⟨X, 20, none⟩ = some (.string (ad (tg a0))) := by have := row?_cell rX (j := 20) (by omega); simpa only [Nat.zero_add, pc_addr] using this
          have c35 : wr.cell? ⟨N, 35, none⟩ = some (.slice a2' zs.length c2') := by rw [← HQ.out.2.2]; exact hn.sc
          have c22 : wr.cell? ⟨N, 22, none⟩ = some (.int .i64 mx) := by rw [← HQ.out.1]; exact hn.mx
          have c23 : wr.cell? ⟨N, 23, none⟩ = some (.int .i64 r) := by rw [← HQ.out.2.1]; exact hn.rp
          have c34 := hn.dp
          have c31 := hn.sy
          have LB : Hid (Lst wr N (some ⟨A + 1, 0, none⟩) xs) := HLB.out.below hbr (Nat.le_refl _)
          have L9 : Hid (Lst wr N a9 (holds (tg a0) r [] xs)) := HL.out.below hbr (Nat.le_refl _)
          have Lz : Hid (Lst wr N a2' zs) := HLz.out.below hbr (Nat.le_refl _)
          have HBE : Hid (Below w.heap.size w wr) := HBW2.out.trans (hbr.mono hw2)
          clear RX RD HN2 HLA HLB HL HLz HBW2 hbr hn rD HQ hw2 HC HT0 Hget hk hlt
          rcases HAF.out with ⟨hless, hzs, hdp, hsy⟩ | ⟨ys, hxs, hzs, hdp, hsy⟩
          · rw [hdp] at c34
            rw [hsy] at c31
            subst hzs
            clear HAF hdp hsy
            cases zs with
            | nil =>
              simp only [List.length_nil] at c35 ⊢
              clear hless
              go_wp2_with fail
              go_quiet (fail)
              go_wp2_with fail
              refine (eq11 _ N a2' (some ⟨A + 1, 0, none⟩) c2' 0 ([]) ([]) (Lz.out.below (below_dN (Below.refl _ _) _) (Nat.le_refl _)) (LB.out.below (below_dN (Below.refl _ _) _) (Nat.le_refl _)) (by simp only [List.length_cons, List.length_nil] at *; omega) (by simp only [List.length_cons, List.length_nil] at *; omega)).mono ?_
              rintro e w' ⟨rfl, n, rfl⟩
              rw [beq_self_eq_true]
              cases fl <;> (go_wp2_with fail; go_ret; exact ⟨rfl, below_dN HBE.out _⟩)
            | cons y ys =>
              have hne : (y == tg a3) = false := by
                simp only [less] at hless
                split at hless
                · have := congrArg List.length hless
                  simp at this
                · simpa
              obtain ⟨g', o', ho, hg', _, rB⟩ := LB.out 0 (by simp)
              simp only [Option.some.injEq, Addr.mk.injEq, and_true] at ho
              obtain ⟨rfl, rfl⟩ := ho
              simp only [List.getElem_cons_zero, Nat.zero_mul, Nat.add_zero] at rB
              simp only [List.length_cons] at c35 ⊢
              clear hless
              go_wp2_with fail
              go_quiet (fail)
              go_wp2_with fail
              refine (eq11 _ N a2' (some ⟨A + 1, 0, none⟩) c2' (ys.length + 1) (y :: ys) (y :: ys) (Lz.out.below (below_dN (Below.refl _ _) _) (Nat.le_refl _)) (LB.out.below (below_dN (Below.refl _ _) _) (Nat.le_refl _)) (by simp only [List.length_cons, List.length_nil] at *; omega) (by simp only [List.length_cons, List.length_nil] at *; omega)).mono ?_
              rintro e w' ⟨rfl, n, rfl⟩
              rw [beq_self_eq_true]
              cases fl <;> (go_wp2_with fail; go_ret; exact ⟨rfl, below_dN HBE.out _⟩)
          · have hcase : ys = [] ∨ (∃ z zs, ys = z :: zs ∧ (z == tg a4) = false) ∨ ys = [tg a4] ∨ ∃ z zs, ys = tg a4 :: z :: zs := by
              rcases ys with _ | ⟨z, _ | ⟨z2, zs⟩⟩
              · exact .inl rfl
              · by_cases hz : z = tg a4
                · subst hz; exact .inr (.inr (.inl rfl))
                · exact .inr (.inl ⟨z, _, rfl, by simpa using hz⟩)
              · by_cases hz : z = tg a4
                · subst hz; exact .inr (.inr (.inr ⟨z2, zs, rfl⟩))
                · exact .inr (.inl ⟨z, _, rfl, by simpa using hz⟩)
            subst hxs
            rw [hdp] at c34
            rw [hsy] at c31
            clear HAF hdp hsy
            obtain ⟨g', o', ho, hg', _, rB⟩ := LB.out 0 (by simp)
            simp only [Option.some.injEq, Addr.mk.injEq, and_true] at ho
            obtain ⟨rfl, rfl⟩ := ho
            simp only [List.getElem_cons_zero, Nat.zero_mul, Nat.add_zero] at rB
            rcases hcase with rfl | ⟨z, zs', rfl, hz⟩ | rfl | ⟨z, zs', rfl⟩
            · rw [show less (tg a4) [] = [] from rfl] at hzs
              simp only [List.length_cons, List.length_nil, Nat.zero_add]
              go_wp2_with fail
              go_quiet (fail)
              go_wp2_with fail
              go_quiet (fail)
              go_wp2_with fail
              generalize hZ : (wr.drewN _).drewN _ = Z
              have bZ : Below wr.heap.size wr Z := by rw [← hZ]; exact below_dN (below_dN (Below.refl _ _) _) _
              have rXZ : row? Z X 0 21 = some (pc (tg a0)) := (row?_of_block (bZ.block X (row?_lt rX)) _ _).trans rX
              have d2Z : row? Z D 22 21 = some (pc (tg a4)) := (row?_of_block (bZ.block D (row?_lt d0)) _ _).trans d2
              have c22Z : Z.cell? ⟨N, 22, none⟩ = some (.int .i64 mx) := (bZ.cell (p := ⟨N, 22, none⟩) hNz).trans c22
              have c23Z := (bZ.cell (p := ⟨N, 23, none⟩) hNz).trans c23
              have c31Z := (bZ.cell (p := ⟨N, 31, none⟩) hNz).trans c31
              have c34Z := (bZ.cell (p := ⟨N, 3404, none⟩) hNz).trans c34
              have c35Z := (bZ.cell (p := ⟨N, 35, none⟩) hNz).trans c35
              have cXZ := (bZ.cell (p := ⟨X, 20, none⟩) (row?_lt rX)).trans cX
              have LBZ : Hid (Lst Z N (some ⟨A + 1, 0, none⟩) ([tg a3])) := LB.out.below bZ (Nat.le_refl _)
              have L9Z : Hid (Lst Z N a9 (holds (tg a0) r [] ([tg a3]))) := L9.out.below bZ (Nat.le_refl _)
              have LzZ : Hid (Lst Z N a2' zs) := Lz.out.below bZ (Nat.le_refl _)
              have HBZ : Hid (Below w.heap.size w Z) := HBE.out.trans (bZ.mono HBE.out.size)
              have hNZ : N < Z.heap.size := Nat.lt_of_lt_of_le hNz bZ.size
              have hXZ := row?_lt rXZ
              have hDZ := row?_lt d2Z
              have HR : Lst Z N (some ⟨A + 1, 0, none⟩) ([]) := Lst.nil _ _ _
              clear rX d0 d2 c22 c23 c31 c34 c35 cX LB L9 Lz HBE hNz bZ hZ rB
              go_region_held3 (fun w' => row? w' X 0 21 = some (pc (tg a0)) ∧ row? w' D 22 21 = some (pc (tg a4)) ∧ w'.cell? ⟨N, 22, none⟩ = some (.int .i64 mx)) ((go_split_ands; first | (refine ⟨?_, ?_, ?_⟩ <;> assumption) | (refine keepD hb10 ?_ ?_ ?_ ?_ ?_ ?_ <;> assumption)))
                (first | (go_at_call 10; refine (slist_any Z.drew N (some ⟨A + 1, 0, none⟩) (0) ([]) (tg a0) (tg a4) mx HR (by simp only [List.length_cons, List.length_nil] at hn1 ⊢; omega) m0 m1 hNZ).mono ?_; rintro e w' ⟨v10, rfl, hown10, hb10⟩))
              rename_i hHeld
              clear hHeld HR
              have bY : Below Z.heap.size Z w' := ⟨hb10.os, hb10.tape, hb10.output, hb10.size, hb10.block⟩
              obtain ⟨a10, c10, rfl, hl10⟩ := hown10.lst (N := N) hNZ
              rw [← hzs] at hl10 ⊢
              have L10 : Hid (Lst w' N a10 zs) := hl10
              have c23Y : w'.cell? ⟨N, 23, none⟩ = some (.int .i64 r) := (bY.cell (p := ⟨N, 23, none⟩) hNZ).trans c23Z
              have c31Y := (bY.cell (p := ⟨N, 31, none⟩) hNZ).trans c31Z
              have c34Y : w'.cell? ⟨N, 3404, none⟩ = some (.int .i64 1) := (bY.cell (p := ⟨N, 3404, none⟩) hNZ).trans c34Z
              have c35Y := (bY.cell (p := ⟨N, 35, none⟩) hNZ).trans c35Z
              have cXY : w'.cell? ⟨X, 20, none⟩ = some (.string (ad (tg a0))) := (bY.cell (p := ⟨X, 20, none⟩) hXZ).trans cXZ
              have L9Y : Hid (Lst w' N a9 (holds (tg a0) r [] ([tg a3]))) := L9Z.out.below bY (Nat.le_refl _)
              have LzY : Hid (Lst w' N a2' zs) := LzZ.out.below bY (Nat.le_refl _)
              have HBY : Hid (Below w.heap.size w w') := HBZ.out.trans (bY.mono HBZ.out.size)
              have hNY : N < w'.heap.size := Nat.lt_of_lt_of_le hNZ bY.size
              have hXY : X < w'.heap.size := Nat.lt_of_lt_of_le hXZ bY.size
              have lzs : zs.length ≤ 1000 := by rw [hzs]; have := length_succs (tg a0) mx (tg a4 :: ([])) []; simp only [List.length_cons, List.length_nil] at this hn1 ⊢; omega
              have lhx : (holds (tg a0) r [] ([tg a3])).length ≤ 1000 := by have := length_holds (tg a0) r ([tg a3]) []; simp only [List.length_cons, List.length_nil] at this hn1 ⊢; omega
              generalize ([tg a3]) = XS at *
              clear hb10 bY hown10 hl10 rXZ d2Z c22Z c23Z c31Z c34Z c35Z cXZ LBZ L9Z LzZ HBZ hNZ hXZ hDZ hzs
              generalize w' = Y at *
              go_wp2_with fail
              refine (eq11 Y N a2' a10 c2' c10 zs zs LzY.out L10.out (by omega) (by omega)).mono ?_
              rintro e w' ⟨rfl, n, rfl⟩
              rw [beq_self_eq_true]
              go_wp2_with fail
              generalize hZ : Y.drewN n = Z2
              have bV : Below Y.heap.size Y Z2 := by rw [← hZ]; exact below_dN (Below.refl _ _) _
              have c23V := (bV.cell (p := ⟨N, 23, none⟩) hNY).trans c23Y
              have c31V := (bV.cell (p := ⟨N, 31, none⟩) hNY).trans c31Y
              have cXV := (bV.cell (p := ⟨X, 20, none⟩) hXY).trans cXY
              have L9V : Hid (Lst Z2 N a9 (holds (tg a0) r [] XS)) := L9Y.out.below bV (Nat.le_refl _)
              have L10V : Hid (Lst Z2 N a10 zs) := L10.out.below bV (Nat.le_refl _)
              have HBV : Hid (Below w.heap.size w Z2) := HBY.out.trans (bV.mono HBY.out.size)
              have hNV : N < Z2.heap.size := Nat.lt_of_lt_of_le hNY bV.size
              have hXV : X < Z2.heap.size := Nat.lt_of_lt_of_le hXY bV.size
              clear hZ bV c23Y c31Y c34Y c35Y cXY L9Y L10 LzY HBY hNY hXY
              have lhz : (holds (tg a0) r [] zs).length ≤ 1000 := by have := length_holds (tg a0) r zs []; simp only [List.length_nil] at this; omega
              go_region_held3 (fun w' => w'.cell? ⟨X, 20, none⟩ = some (.string (ad (tg a0))) ∧ w'.cell? ⟨N, 23, none⟩ = some (.int .i64 r)) ((go_split_ands; first | (refine ⟨?_, ?_⟩ <;> assumption) | (refine keepE hb11 ?_ ?_ ?_ ?_ <;> assumption) | (refine keepF ?_ ?_ <;> assumption)))
                (first | (go_at_call 9; refine (holders_any Z2.drew N a10 c10 zs (tg a0) r (L10V.out.below (Below.refl _ _).drew (Nat.le_refl _)) lzs r0 r1 hNV).mono ?_; rintro e w' ⟨v11, rfl, hown11, hb11⟩; obtain ⟨a11, c11, rfl, hl11⟩ := hown11.lst (N := N) hNV) | (go_at_call 11; refine (eq11 _ N a11 a9 c11 c9 (holds (tg a0) r [] zs) (holds (tg a0) r [] XS) hl11 (L9V.out.below (undrew hb11) (Nat.le_refl _)) (by omega) (by omega)).mono ?_; rintro e w'' ⟨rfl, n2, rfl⟩))
              rename_i hHeld
              clear hHeld
              have HBF : Hid (Below w.heap.size w (w'.drewN n2)) := below_dN (HBV.out.trans ((undrew hb11).mono HBV.out.size)) _
              have c31F : (w'.drewN n2).cell? ⟨N, 31, none⟩ = some (.bool (fl && holds (tg a0) r [] zs == holds (tg a0) r [] XS)) := ((undrew hb11).cell (p := ⟨N, 31, none⟩) hNV).trans c31V
              clear hb11 hl11 hown11 L9V L10V HBV c23V c31V cXV hNV hXV lhz lhx lzs
              generalize w'.drewN n2 = F at *
              generalize (holds (tg a0) r [] zs == holds (tg a0) r [] XS) = E at *
              cases fl <;> cases E <;> (go_wp2_with fail; go_ret; exact ⟨rfl, HBF.out⟩)
            · rw [show less (tg a4) (z :: zs') = z :: zs' by simp only [less]; rw [if_neg (by simpa using hz)]] at hzs
              have rz : row? wr (A + 1) 21 21 = some (pc z) := by
                obtain ⟨g', o', ho, _, _, hr⟩ := LB.out 1 (by simp)
                simp only [Option.some.injEq, Addr.mk.injEq, and_true] at ho
                obtain ⟨rfl, rfl⟩ := ho
                simpa using hr
              have z0 : decide ((0 : Int) < (zs'.length : Int) + 1 + 1) = true := by rw [decide_eq_true_eq]; omega
              have z1 : decide ((0 : Int) < (zs'.length : Int) + 1 + 1 + 1) = true := by rw [decide_eq_true_eq]; omega
              have z3 : decide ((0 : Int) < (zs'.length : Int) + 2) = true := by rw [decide_eq_true_eq]; omega
              have z2 : decide ((0 : Int) < (zs'.length : Int) + 1) = true := by rw [decide_eq_true_eq]; omega
              simp only [List.length_cons]
              go_wp2_with fail
              go_quiet (fail)
              go_wp2_with fail
              go_quiet (fail)
              go_wp2_with fail
              generalize hZ : (wr.drewN _).drewN _ = Z
              have bZ : Below wr.heap.size wr Z := by rw [← hZ]; exact below_dN (below_dN (Below.refl _ _) _) _
              have rXZ : row? Z X 0 21 = some (pc (tg a0)) := (row?_of_block (bZ.block X (row?_lt rX)) _ _).trans rX
              have d2Z : row? Z D 22 21 = some (pc (tg a4)) := (row?_of_block (bZ.block D (row?_lt d0)) _ _).trans d2
              have c22Z : Z.cell? ⟨N, 22, none⟩ = some (.int .i64 mx) := (bZ.cell (p := ⟨N, 22, none⟩) hNz).trans c22
              have c23Z := (bZ.cell (p := ⟨N, 23, none⟩) hNz).trans c23
              have c31Z := (bZ.cell (p := ⟨N, 31, none⟩) hNz).trans c31
              have c34Z := (bZ.cell (p := ⟨N, 3404, none⟩) hNz).trans c34
              have c35Z := (bZ.cell (p := ⟨N, 35, none⟩) hNz).trans c35
              have cXZ := (bZ.cell (p := ⟨X, 20, none⟩) (row?_lt rX)).trans cX
              have LBZ : Hid (Lst Z N (some ⟨A + 1, 0, none⟩) (tg a3 :: z :: zs')) := LB.out.below bZ (Nat.le_refl _)
              have L9Z : Hid (Lst Z N a9 (holds (tg a0) r [] (tg a3 :: z :: zs'))) := L9.out.below bZ (Nat.le_refl _)
              have LzZ : Hid (Lst Z N a2' zs) := Lz.out.below bZ (Nat.le_refl _)
              have HBZ : Hid (Below w.heap.size w Z) := HBE.out.trans (bZ.mono HBE.out.size)
              have hNZ : N < Z.heap.size := Nat.lt_of_lt_of_le hNz bZ.size
              have hXZ := row?_lt rXZ
              have hDZ := row?_lt d2Z
              have HR : Lst Z N (some ⟨A + 1, 21, none⟩) (z :: zs') := LBZ.out.tail
              clear rX d0 d2 c22 c23 c31 c34 c35 cX LB L9 Lz HBE hNz bZ hZ rB
              go_region_held3 (fun w' => row? w' X 0 21 = some (pc (tg a0)) ∧ row? w' D 22 21 = some (pc (tg a4)) ∧ w'.cell? ⟨N, 22, none⟩ = some (.int .i64 mx)) ((go_split_ands; first | (refine ⟨?_, ?_, ?_⟩ <;> assumption) | (refine keepD hb10 ?_ ?_ ?_ ?_ ?_ ?_ <;> assumption)))
                (first | (go_at_call 10; refine (slist_any Z.drew N (some ⟨A + 1, 21, none⟩) (zs'.length + 1) (z :: zs') (tg a0) (tg a4) mx HR (by simp only [List.length_cons, List.length_nil] at hn1 ⊢; omega) m0 m1 hNZ).mono ?_; rintro e w' ⟨v10, rfl, hown10, hb10⟩))
              rename_i hHeld
              clear hHeld HR
              have bY : Below Z.heap.size Z w' := ⟨hb10.os, hb10.tape, hb10.output, hb10.size, hb10.block⟩
              obtain ⟨a10, c10, rfl, hl10⟩ := hown10.lst (N := N) hNZ
              rw [← hzs] at hl10 ⊢
              have L10 : Hid (Lst w' N a10 zs) := hl10
              have c23Y : w'.cell? ⟨N, 23, none⟩ = some (.int .i64 r) := (bY.cell (p := ⟨N, 23, none⟩) hNZ).trans c23Z
              have c31Y := (bY.cell (p := ⟨N, 31, none⟩) hNZ).trans c31Z
              have c34Y : w'.cell? ⟨N, 3404, none⟩ = some (.int .i64 1) := (bY.cell (p := ⟨N, 3404, none⟩) hNZ).trans c34Z
              have c35Y := (bY.cell (p := ⟨N, 35, none⟩) hNZ).trans c35Z
              have cXY : w'.cell? ⟨X, 20, none⟩ = some (.string (ad (tg a0))) := (bY.cell (p := ⟨X, 20, none⟩) hXZ).trans cXZ
              have L9Y : Hid (Lst w' N a9 (holds (tg a0) r [] (tg a3 :: z :: zs'))) := L9Z.out.below bY (Nat.le_refl _)
              have LzY : Hid (Lst w' N a2' zs) := LzZ.out.below bY (Nat.le_refl _)
              have HBY : Hid (Below w.heap.size w w') := HBZ.out.trans (bY.mono HBZ.out.size)
              have hNY : N < w'.heap.size := Nat.lt_of_lt_of_le hNZ bY.size
              have hXY : X < w'.heap.size := Nat.lt_of_lt_of_le hXZ bY.size
              have lzs : zs.length ≤ 1000 := by rw [hzs]; have := length_succs (tg a0) mx (tg a4 :: (z :: zs')) []; simp only [List.length_cons, List.length_nil] at this hn1 ⊢; omega
              have lhx : (holds (tg a0) r [] (tg a3 :: z :: zs')).length ≤ 1000 := by have := length_holds (tg a0) r (tg a3 :: z :: zs') []; simp only [List.length_cons, List.length_nil] at this hn1 ⊢; omega
              generalize (tg a3 :: z :: zs') = XS at *
              clear hb10 bY hown10 hl10 rXZ d2Z c22Z c23Z c31Z c34Z c35Z cXZ LBZ L9Z LzZ HBZ hNZ hXZ hDZ hzs
              generalize w' = Y at *
              go_wp2_with fail
              refine (eq11 Y N a2' a10 c2' c10 zs zs LzY.out L10.out (by omega) (by omega)).mono ?_
              rintro e w' ⟨rfl, n, rfl⟩
              rw [beq_self_eq_true]
              go_wp2_with fail
              generalize hZ : Y.drewN n = Z2
              have bV : Below Y.heap.size Y Z2 := by rw [← hZ]; exact below_dN (Below.refl _ _) _
              have c23V := (bV.cell (p := ⟨N, 23, none⟩) hNY).trans c23Y
              have c31V := (bV.cell (p := ⟨N, 31, none⟩) hNY).trans c31Y
              have cXV := (bV.cell (p := ⟨X, 20, none⟩) hXY).trans cXY
              have L9V : Hid (Lst Z2 N a9 (holds (tg a0) r [] XS)) := L9Y.out.below bV (Nat.le_refl _)
              have L10V : Hid (Lst Z2 N a10 zs) := L10.out.below bV (Nat.le_refl _)
              have HBV : Hid (Below w.heap.size w Z2) := HBY.out.trans (bV.mono HBY.out.size)
              have hNV : N < Z2.heap.size := Nat.lt_of_lt_of_le hNY bV.size
              have hXV : X < Z2.heap.size := Nat.lt_of_lt_of_le hXY bV.size
              clear hZ bV c23Y c31Y c34Y c35Y cXY L9Y L10 LzY HBY hNY hXY
              have lhz : (holds (tg a0) r [] zs).length ≤ 1000 := by have := length_holds (tg a0) r zs []; simp only [List.length_nil] at this; omega
              go_region_held3 (fun w' => w'.cell? ⟨X, 20, none⟩ = some (.string (ad (tg a0))) ∧ w'.cell? ⟨N, 23, none⟩ = some (.int .i64 r)) ((go_split_ands; first | (refine ⟨?_, ?_⟩ <;> assumption) | (refine keepE hb11 ?_ ?_ ?_ ?_ <;> assumption) | (refine keepF ?_ ?_ <;> assumption)))
                (first | (go_at_call 9; refine (holders_any Z2.drew N a10 c10 zs (tg a0) r (L10V.out.below (Below.refl _ _).drew (Nat.le_refl _)) lzs r0 r1 hNV).mono ?_; rintro e w' ⟨v11, rfl, hown11, hb11⟩; obtain ⟨a11, c11, rfl, hl11⟩ := hown11.lst (N := N) hNV) | (go_at_call 11; refine (eq11 _ N a11 a9 c11 c9 (holds (tg a0) r [] zs) (holds (tg a0) r [] XS) hl11 (L9V.out.below (undrew hb11) (Nat.le_refl _)) (by omega) (by omega)).mono ?_; rintro e w'' ⟨rfl, n2, rfl⟩))
              rename_i hHeld
              clear hHeld
              have HBF : Hid (Below w.heap.size w (w'.drewN n2)) := below_dN (HBV.out.trans ((undrew hb11).mono HBV.out.size)) _
              have c31F : (w'.drewN n2).cell? ⟨N, 31, none⟩ = some (.bool (fl && holds (tg a0) r [] zs == holds (tg a0) r [] XS)) := ((undrew hb11).cell (p := ⟨N, 31, none⟩) hNV).trans c31V
              clear hb11 hl11 hown11 L9V L10V HBV c23V c31V cXV hNV hXV lhz lhx lzs
              generalize w'.drewN n2 = F at *
              generalize (holds (tg a0) r [] zs == holds (tg a0) r [] XS) = E at *
              cases fl <;> cases E <;> (go_wp2_with fail; go_ret; exact ⟨rfl, HBF.out⟩)
            · rw [show less (tg a4) [tg a4] = [] by simp [less]] at hzs
              have rz : row? wr (A + 1) 21 21 = some (pc (tg a4)) := by
                obtain ⟨g', o', ho, _, _, hr⟩ := LB.out 1 (by simp)
                simp only [Option.some.injEq, Addr.mk.injEq, and_true] at ho
                obtain ⟨rfl, rfl⟩ := ho
                simpa using hr
              simp only [List.length_cons, List.length_nil, Nat.zero_add]
              go_wp2_with fail
              go_quiet (fail)
              go_wp2_with fail
              go_quiet (fail)
              go_wp2_with fail
              generalize hZ : wr.drewN _ = Z
              have bZ : Below wr.heap.size wr Z := by rw [← hZ]; exact below_dN (Below.refl _ _) _
              have rXZ : row? Z X 0 21 = some (pc (tg a0)) := (row?_of_block (bZ.block X (row?_lt rX)) _ _).trans rX
              have d2Z : row? Z D 22 21 = some (pc (tg a4)) := (row?_of_block (bZ.block D (row?_lt d0)) _ _).trans d2
              have c22Z : Z.cell? ⟨N, 22, none⟩ = some (.int .i64 mx) := (bZ.cell (p := ⟨N, 22, none⟩) hNz).trans c22
              have c23Z := (bZ.cell (p := ⟨N, 23, none⟩) hNz).trans c23
              have c31Z := (bZ.cell (p := ⟨N, 31, none⟩) hNz).trans c31
              have c34Z := (bZ.cell (p := ⟨N, 3404, none⟩) hNz).trans c34
              have c35Z := (bZ.cell (p := ⟨N, 35, none⟩) hNz).trans c35
              have cXZ := (bZ.cell (p := ⟨X, 20, none⟩) (row?_lt rX)).trans cX
              have LBZ : Hid (Lst Z N (some ⟨A + 1, 0, none⟩) ([tg a3, tg a4])) := LB.out.below bZ (Nat.le_refl _)
              have L9Z : Hid (Lst Z N a9 (holds (tg a0) r [] ([tg a3, tg a4]))) := L9.out.below bZ (Nat.le_refl _)
              have LzZ : Hid (Lst Z N a2' zs) := Lz.out.below bZ (Nat.le_refl _)
              have HBZ : Hid (Below w.heap.size w Z) := HBE.out.trans (bZ.mono HBE.out.size)
              have hNZ : N < Z.heap.size := Nat.lt_of_lt_of_le hNz bZ.size
              have hXZ := row?_lt rXZ
              have hDZ := row?_lt d2Z
              have HR : Lst Z N (some ⟨A + 1, 21, none⟩) ([]) := Lst.nil _ _ _
              clear rX d0 d2 c22 c23 c31 c34 c35 cX LB L9 Lz HBE hNz bZ hZ rB
              go_region_held3 (fun w' => row? w' X 0 21 = some (pc (tg a0)) ∧ row? w' D 22 21 = some (pc (tg a4)) ∧ w'.cell? ⟨N, 22, none⟩ = some (.int .i64 mx)) ((go_split_ands; first | (refine ⟨?_, ?_, ?_⟩ <;> assumption) | (refine keepD hb10 ?_ ?_ ?_ ?_ ?_ ?_ <;> assumption)))
                (first | (go_at_call 10; refine (slist_any Z.drew N (some ⟨A + 1, 21, none⟩) (0) ([]) (tg a0) (tg a4) mx HR (by simp only [List.length_cons, List.length_nil] at hn1 ⊢; omega) m0 m1 hNZ).mono ?_; rintro e w' ⟨v10, rfl, hown10, hb10⟩))
              rename_i hHeld
              clear hHeld HR
              have bY : Below Z.heap.size Z w' := ⟨hb10.os, hb10.tape, hb10.output, hb10.size, hb10.block⟩
              obtain ⟨a10, c10, rfl, hl10⟩ := hown10.lst (N := N) hNZ
              rw [← hzs] at hl10 ⊢
              have L10 : Hid (Lst w' N a10 zs) := hl10
              have c23Y : w'.cell? ⟨N, 23, none⟩ = some (.int .i64 r) := (bY.cell (p := ⟨N, 23, none⟩) hNZ).trans c23Z
              have c31Y := (bY.cell (p := ⟨N, 31, none⟩) hNZ).trans c31Z
              have c34Y : w'.cell? ⟨N, 3404, none⟩ = some (.int .i64 1) := (bY.cell (p := ⟨N, 3404, none⟩) hNZ).trans c34Z
              have c35Y := (bY.cell (p := ⟨N, 35, none⟩) hNZ).trans c35Z
              have cXY : w'.cell? ⟨X, 20, none⟩ = some (.string (ad (tg a0))) := (bY.cell (p := ⟨X, 20, none⟩) hXZ).trans cXZ
              have L9Y : Hid (Lst w' N a9 (holds (tg a0) r [] ([tg a3, tg a4]))) := L9Z.out.below bY (Nat.le_refl _)
              have LzY : Hid (Lst w' N a2' zs) := LzZ.out.below bY (Nat.le_refl _)
              have HBY : Hid (Below w.heap.size w w') := HBZ.out.trans (bY.mono HBZ.out.size)
              have hNY : N < w'.heap.size := Nat.lt_of_lt_of_le hNZ bY.size
              have hXY : X < w'.heap.size := Nat.lt_of_lt_of_le hXZ bY.size
              have lzs : zs.length ≤ 1000 := by rw [hzs]; have := length_succs (tg a0) mx (tg a4 :: ([])) []; simp only [List.length_cons, List.length_nil] at this hn1 ⊢; omega
              have lhx : (holds (tg a0) r [] ([tg a3, tg a4])).length ≤ 1000 := by have := length_holds (tg a0) r ([tg a3, tg a4]) []; simp only [List.length_cons, List.length_nil] at this hn1 ⊢; omega
              generalize ([tg a3, tg a4]) = XS at *
              clear hb10 bY hown10 hl10 rXZ d2Z c22Z c23Z c31Z c34Z c35Z cXZ LBZ L9Z LzZ HBZ hNZ hXZ hDZ hzs
              generalize w' = Y at *
              go_wp2_with fail
              refine (eq11 Y N a2' a10 c2' c10 zs zs LzY.out L10.out (by omega) (by omega)).mono ?_
              rintro e w' ⟨rfl, n, rfl⟩
              rw [beq_self_eq_true]
              go_wp2_with fail
              generalize hZ : Y.drewN n = Z2
              have bV : Below Y.heap.size Y Z2 := by rw [← hZ]; exact below_dN (Below.refl _ _) _
              have c23V := (bV.cell (p := ⟨N, 23, none⟩) hNY).trans c23Y
              have c31V := (bV.cell (p := ⟨N, 31, none⟩) hNY).trans c31Y
              have cXV := (bV.cell (p := ⟨X, 20, none⟩) hXY).trans cXY
              have L9V : Hid (Lst Z2 N a9 (holds (tg a0) r [] XS)) := L9Y.out.below bV (Nat.le_refl _)
              have L10V : Hid (Lst Z2 N a10 zs) := L10.out.below bV (Nat.le_refl _)
              have HBV : Hid (Below w.heap.size w Z2) := HBY.out.trans (bV.mono HBY.out.size)
              have hNV : N < Z2.heap.size := Nat.lt_of_lt_of_le hNY bV.size
              have hXV : X < Z2.heap.size := Nat.lt_of_lt_of_le hXY bV.size
              clear hZ bV c23Y c31Y c34Y c35Y cXY L9Y L10 LzY HBY hNY hXY
              have lhz : (holds (tg a0) r [] zs).length ≤ 1000 := by have := length_holds (tg a0) r zs []; simp only [List.length_nil] at this; omega
              go_region_held3 (fun w' => w'.cell? ⟨X, 20, none⟩ = some (.string (ad (tg a0))) ∧ w'.cell? ⟨N, 23, none⟩ = some (.int .i64 r)) ((go_split_ands; first | (refine ⟨?_, ?_⟩ <;> assumption) | (refine keepE hb11 ?_ ?_ ?_ ?_ <;> assumption) | (refine keepF ?_ ?_ <;> assumption)))
                (first | (go_at_call 9; refine (holders_any Z2.drew N a10 c10 zs (tg a0) r (L10V.out.below (Below.refl _ _).drew (Nat.le_refl _)) lzs r0 r1 hNV).mono ?_; rintro e w' ⟨v11, rfl, hown11, hb11⟩; obtain ⟨a11, c11, rfl, hl11⟩ := hown11.lst (N := N) hNV) | (go_at_call 11; refine (eq11 _ N a11 a9 c11 c9 (holds (tg a0) r [] zs) (holds (tg a0) r [] XS) hl11 (L9V.out.below (undrew hb11) (Nat.le_refl _)) (by omega) (by omega)).mono ?_; rintro e w'' ⟨rfl, n2, rfl⟩))
              rename_i hHeld
              clear hHeld
              have HBF : Hid (Below w.heap.size w (w'.drewN n2)) := below_dN (HBV.out.trans ((undrew hb11).mono HBV.out.size)) _
              have c31F : (w'.drewN n2).cell? ⟨N, 31, none⟩ = some (.bool (fl && holds (tg a0) r [] zs == holds (tg a0) r [] XS)) := ((undrew hb11).cell (p := ⟨N, 31, none⟩) hNV).trans c31V
              clear hb11 hl11 hown11 L9V L10V HBV c23V c31V cXV hNV hXV lhz lhx lzs
              generalize w'.drewN n2 = F at *
              generalize (holds (tg a0) r [] zs == holds (tg a0) r [] XS) = E at *
              cases fl <;> cases E <;> (go_wp2_with fail; go_ret; exact ⟨rfl, HBF.out⟩)
            · rw [show less (tg a4) (tg a4 :: z :: zs') = z :: zs' by simp [less]] at hzs
              have rz : row? wr (A + 1) 21 21 = some (pc (tg a4)) := by
                obtain ⟨g', o', ho, _, _, hr⟩ := LB.out 1 (by simp)
                simp only [Option.some.injEq, Addr.mk.injEq, and_true] at ho
                obtain ⟨rfl, rfl⟩ := ho
                simpa using hr
              have z0 : decide ((0 : Int) < (zs'.length : Int) + 1 + 1) = true := by rw [decide_eq_true_eq]; omega
              have z1 : decide ((0 : Int) < (zs'.length : Int) + 1 + 1 + 1) = true := by rw [decide_eq_true_eq]; omega
              have z3 : decide ((0 : Int) < (zs'.length : Int) + 2) = true := by rw [decide_eq_true_eq]; omega
              have z2 : decide ((0 : Int) < (zs'.length : Int) + 1) = true := by rw [decide_eq_true_eq]; omega
              simp only [List.length_cons]
              go_wp2_with fail
              go_quiet (fail)
              go_wp2_with fail
              go_quiet (fail)
              go_wp2_with fail
              generalize hZ : wr.drewN _ = Z
              have bZ : Below wr.heap.size wr Z := by rw [← hZ]; exact below_dN (Below.refl _ _) _
              have rXZ : row? Z X 0 21 = some (pc (tg a0)) := (row?_of_block (bZ.block X (row?_lt rX)) _ _).trans rX
              have d2Z : row? Z D 22 21 = some (pc (tg a4)) := (row?_of_block (bZ.block D (row?_lt d0)) _ _).trans d2
              have c22Z : Z.cell? ⟨N, 22, none⟩ = some (.int .i64 mx) := (bZ.cell (p := ⟨N, 22, none⟩) hNz).trans c22
              have c23Z := (bZ.cell (p := ⟨N, 23, none⟩) hNz).trans c23
              have c31Z := (bZ.cell (p := ⟨N, 31, none⟩) hNz).trans c31
              have c34Z := (bZ.cell (p := ⟨N, 3404, none⟩) hNz).trans c34
              have c35Z := (bZ.cell (p := ⟨N, 35, none⟩) hNz).trans c35
              have cXZ := (bZ.cell (p := ⟨X, 20, none⟩) (row?_lt rX)).trans cX
              have LBZ : Hid (Lst Z N (some ⟨A + 1, 0, none⟩) (tg a3 :: tg a4 :: z :: zs')) := LB.out.below bZ (Nat.le_refl _)
              have L9Z : Hid (Lst Z N a9 (holds (tg a0) r [] (tg a3 :: tg a4 :: z :: zs'))) := L9.out.below bZ (Nat.le_refl _)
              have LzZ : Hid (Lst Z N a2' zs) := Lz.out.below bZ (Nat.le_refl _)
              have HBZ : Hid (Below w.heap.size w Z) := HBE.out.trans (bZ.mono HBE.out.size)
              have hNZ : N < Z.heap.size := Nat.lt_of_lt_of_le hNz bZ.size
              have hXZ := row?_lt rXZ
              have hDZ := row?_lt d2Z
              have HR : Lst Z N (some ⟨A + 1, 42, none⟩) (z :: zs') := LBZ.out.tail.tail
              clear rX d0 d2 c22 c23 c31 c34 c35 cX LB L9 Lz HBE hNz bZ hZ rB
              go_region_held3 (fun w' => row? w' X 0 21 = some (pc (tg a0)) ∧ row? w' D 22 21 = some (pc (tg a4)) ∧ w'.cell? ⟨N, 22, none⟩ = some (.int .i64 mx)) ((go_split_ands; first | (refine ⟨?_, ?_, ?_⟩ <;> assumption) | (refine keepD hb10 ?_ ?_ ?_ ?_ ?_ ?_ <;> assumption)))
                (first | (go_at_call 10; refine (slist_any Z.drew N (some ⟨A + 1, 42, none⟩) (zs'.length + 1) (z :: zs') (tg a0) (tg a4) mx HR (by simp only [List.length_cons, List.length_nil] at hn1 ⊢; omega) m0 m1 hNZ).mono ?_; rintro e w' ⟨v10, rfl, hown10, hb10⟩))
              rename_i hHeld
              clear hHeld HR
              have bY : Below Z.heap.size Z w' := ⟨hb10.os, hb10.tape, hb10.output, hb10.size, hb10.block⟩
              obtain ⟨a10, c10, rfl, hl10⟩ := hown10.lst (N := N) hNZ
              rw [← hzs] at hl10 ⊢
              have L10 : Hid (Lst w' N a10 zs) := hl10
              have c23Y : w'.cell? ⟨N, 23, none⟩ = some (.int .i64 r) := (bY.cell (p := ⟨N, 23, none⟩) hNZ).trans c23Z
              have c31Y := (bY.cell (p := ⟨N, 31, none⟩) hNZ).trans c31Z
              have c34Y : w'.cell? ⟨N, 3404, none⟩ = some (.int .i64 1) := (bY.cell (p := ⟨N, 3404, none⟩) hNZ).trans c34Z
              have c35Y := (bY.cell (p := ⟨N, 35, none⟩) hNZ).trans c35Z
              have cXY : w'.cell? ⟨X, 20, none⟩ = some (.string (ad (tg a0))) := (bY.cell (p := ⟨X, 20, none⟩) hXZ).trans cXZ
              have L9Y : Hid (Lst w' N a9 (holds (tg a0) r [] (tg a3 :: tg a4 :: z :: zs'))) := L9Z.out.below bY (Nat.le_refl _)
              have LzY : Hid (Lst w' N a2' zs) := LzZ.out.below bY (Nat.le_refl _)
              have HBY : Hid (Below w.heap.size w w') := HBZ.out.trans (bY.mono HBZ.out.size)
              have hNY : N < w'.heap.size := Nat.lt_of_lt_of_le hNZ bY.size
              have hXY : X < w'.heap.size := Nat.lt_of_lt_of_le hXZ bY.size
              have lzs : zs.length ≤ 1000 := by rw [hzs]; have := length_succs (tg a0) mx (tg a4 :: (z :: zs')) []; simp only [List.length_cons, List.length_nil] at this hn1 ⊢; omega
              have lhx : (holds (tg a0) r [] (tg a3 :: tg a4 :: z :: zs')).length ≤ 1000 := by have := length_holds (tg a0) r (tg a3 :: tg a4 :: z :: zs') []; simp only [List.length_cons, List.length_nil] at this hn1 ⊢; omega
              generalize (tg a3 :: tg a4 :: z :: zs') = XS at *
              clear hb10 bY hown10 hl10 rXZ d2Z c22Z c23Z c31Z c34Z c35Z cXZ LBZ L9Z LzZ HBZ hNZ hXZ hDZ hzs
              generalize w' = Y at *
              go_wp2_with fail
              refine (eq11 Y N a2' a10 c2' c10 zs zs LzY.out L10.out (by omega) (by omega)).mono ?_
              rintro e w' ⟨rfl, n, rfl⟩
              rw [beq_self_eq_true]
              go_wp2_with fail
              generalize hZ : Y.drewN n = Z2
              have bV : Below Y.heap.size Y Z2 := by rw [← hZ]; exact below_dN (Below.refl _ _) _
              have c23V := (bV.cell (p := ⟨N, 23, none⟩) hNY).trans c23Y
              have c31V := (bV.cell (p := ⟨N, 31, none⟩) hNY).trans c31Y
              have cXV := (bV.cell (p := ⟨X, 20, none⟩) hXY).trans cXY
              have L9V : Hid (Lst Z2 N a9 (holds (tg a0) r [] XS)) := L9Y.out.below bV (Nat.le_refl _)
              have L10V : Hid (Lst Z2 N a10 zs) := L10.out.below bV (Nat.le_refl _)
              have HBV : Hid (Below w.heap.size w Z2) := HBY.out.trans (bV.mono HBY.out.size)
              have hNV : N < Z2.heap.size := Nat.lt_of_lt_of_le hNY bV.size
              have hXV : X < Z2.heap.size := Nat.lt_of_lt_of_le hXY bV.size
              clear hZ bV c23Y c31Y c34Y c35Y cXY L9Y L10 LzY HBY hNY hXY
              have lhz : (holds (tg a0) r [] zs).length ≤ 1000 := by have := length_holds (tg a0) r zs []; simp only [List.length_nil] at this; omega
              go_region_held3 (fun w' => w'.cell? ⟨X, 20, none⟩ = some (.string (ad (tg a0))) ∧ w'.cell? ⟨N, 23, none⟩ = some (.int .i64 r)) ((go_split_ands; first | (refine ⟨?_, ?_⟩ <;> assumption) | (refine keepE hb11 ?_ ?_ ?_ ?_ <;> assumption) | (refine keepF ?_ ?_ <;> assumption)))
                (first | (go_at_call 9; refine (holders_any Z2.drew N a10 c10 zs (tg a0) r (L10V.out.below (Below.refl _ _).drew (Nat.le_refl _)) lzs r0 r1 hNV).mono ?_; rintro e w' ⟨v11, rfl, hown11, hb11⟩; obtain ⟨a11, c11, rfl, hl11⟩ := hown11.lst (N := N) hNV) | (go_at_call 11; refine (eq11 _ N a11 a9 c11 c9 (holds (tg a0) r [] zs) (holds (tg a0) r [] XS) hl11 (L9V.out.below (undrew hb11) (Nat.le_refl _)) (by omega) (by omega)).mono ?_; rintro e w'' ⟨rfl, n2, rfl⟩))
              rename_i hHeld
              clear hHeld
              have HBF : Hid (Below w.heap.size w (w'.drewN n2)) := below_dN (HBV.out.trans ((undrew hb11).mono HBV.out.size)) _
              have c31F : (w'.drewN n2).cell? ⟨N, 31, none⟩ = some (.bool (fl && holds (tg a0) r [] zs == holds (tg a0) r [] XS)) := ((undrew hb11).cell (p := ⟨N, 31, none⟩) hNV).trans c31V
              clear hb11 hl11 hown11 L9V L10V HBV c23V c31V cXV hNV hXV lhz lhx lzs
              generalize w'.drewN n2 = F at *
              generalize (holds (tg a0) r [] zs == holds (tg a0) r [] XS) = E at *
              cases fl <;> cases E <;> (go_wp2_with fail; go_ret; exact ⟨rfl, HBF.out⟩)
set_option maxRecDepth 100000 in
theorem succ_big (w : World) (a0 a1 a2 a3 a4 : Int) (a : Option Addr) (len cap : Nat) (fl : Bool) (hbig : 300 < len) (hl : len ≤ maxLen) :
    Calls Yba.prog 4 #[.int .u8 a0, .int .u8 a1, .int .u8 a2, .int .u8 a3, .int .u8 a4, .slice a len cap, .bool fl] w fun e w' => e = .returned (.bool true) ∧ Below w.heap.size w w' := by
  unfold maxLen at hl
  go_enter Yba.func4, Yba.ntmps4
  go_wp2
  go_ret
  exact ⟨rfl, Below.refl _ _⟩
end Go.Proofs.Ybulkbsys
