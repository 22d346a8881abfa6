/-
  RINGHOP: (*Node).successorList.
-/
import Derived.Test.YbulkbsysCopyHolders
import Derived.Test.YbulkbsysAppends
import Derived.Deep.RegionWith
namespace Go.Proofs.Ybulkbsys
open Go.RowKit
attribute [local go_sem ↓] ld27 ld25 ld51 st27 st51 al27 al51 bx27 bx51 bx49 bd25 bd27 bd51 bd49 eq27 ne27 eq25 eg27 eg25 pc_addr dpc_pred dpc_rec
attribute [local go_sem] run_ld27 run_ld25 run_ld51 ldOut_some stOut_true run_st27 run_st51 run_al27 run_al51 run_bxRow run_bd25 run_bd27 run_bd51 run_bd51b run_eg27e run_eg27n run_eg25e run_eq27 run_ne27 run_eq25 ad_beq ad_bne ad_fold
attribute [local go_sem] row?_drew loose_drew row?_alloc_past loose_alloc_past row?_alloc_at loose_alloc_at size_setRow loose_setRow loose_setCell row?_setRow_same row?_setRow cell?_setRow frozen?_setRow row?_setCell setRow_drew setRow_alloc_past setRow_alloc_at
attribute [local go_sem] size_pc size_idc size_z27 size_z51 size_dpc single_pc single_z27 single_dpc dpc_node dpc_succ dpc_all pc_id pc_all pc_pop
attribute [local go_sem] row?_drewN loose_drewN alloc_drewN setCell_drewN setRow_drewN
attribute [local go_sem] cell?_alloc_ite newCell_cells frozen?_alloc_ite' row?_alloc_ite newRow?_cells loose_alloc_ite setCell_alloc_ite setNew_cells setRow_alloc_ite layNew_cells
attribute [local go_sem ↓] bs45
attribute [local go_sem] run_bs45
set_option linter.unusedVariables false
set_option linter.unusedSimpArgs false
theorem row_newC (w : World) (t : Fin 8) (B : Nat) (h : B = w.heap.size) : row? (w.alloc (.cells (pc t) 27)) B 0 21 = some (pc t) := by subst h; exact row_new2 _ _
theorem rangeAt_row {w : World} {b n : Nat} {c : Array Value} (h : row? w b 0 n = some c) (hn : c.size = n) : w.rangeAt b 0 c.toList := fun j v hv => by
  have hj : j < n := by
    have := (List.getElem?_eq_some_iff.1 hv).1
    rw [Array.length_toList] at this
    omega
  rw [row?_cell h hj]
  simpa using hv
theorem rangeAt_below {w w' : World} {B b : Nat} {cs : List Value} (hb : Below B w w') (hB : b < B) (h : w.rangeAt b 0 cs) : w'.rangeAt b 0 cs := fun j v hv => (hb.cell (p := ⟨b, 0 + j, none⟩) hB).trans (h j v hv)
theorem size25 (t : Fin 8) : (Yba.prog.info? 25).map (·.size) = some (idc t).toList.length := by kernel_rfl
theorem Own.at_lt {w : World} {base : Nat} {v : Value} {ts : List (Fin 8)} (h : Own w base v ts) {k : Nat} (hk : v.ownBlock = some k) : k < w.heap.size := by
  rcases h.2 with ⟨h0, _⟩ | ⟨g, cap, cur, hv, _, hh, _⟩
  · rw [h0] at hk; cases hk
  · rw [hv] at hk
    simp only [Value.ownBlock, Option.some.injEq] at hk
    rw [← hk]
    exact (Array.getElem?_eq_some_iff.1 hh).1
set_option maxRecDepth 100000 in
set_option maxHeartbeats 4000000 in
theorem sucl_any (w : World) (N : Nat) (q : NS) (a : Option Addr) (ca : Nat) (xs : List (Fin 8)) (p0 : Fin 8) (h : Nd w N q) (hx : Lst w N a xs) (lx : xs.length ≤ 1000) (m0 : 1 ≤ q.mx) (m1 : q.mx ≤ 1000) :
    Calls Yba.prog 17 #[.pointer (some ⟨N, 0, none⟩), .agg (pc p0), .slice a xs.length ca] w fun e w' => ∃ v, e = .returned v ∧ Own w' w.heap.size v (succs q.s q.mx [] (p0 :: xs)) ∧ Below w.heap.size w w' := by
  have hN := h.lt
  have cmx := h.mx
  have cid := h.id
  have cad := h.addr
  generalize q.mx = mx at *
  generalize q.s = s at *
  clear h
  go_enter Yba.func17, Yba.ntmps17
  go_wp2_with (at_builtin; refine app_any (by rfl) _ _ (by rfl) w.heap.size _ [p0] (by rfl) ?hown a ca xs N (by rfl) ?hlst (by simp) (by simp; omega) ?hbase ?_; rotate_left 3; intro g1 cap1 w1 hown1 hgrow1)
  case hown =>
    have := own_one (w.alloc (.cells (pc p0) 27)) w.heap.size p0 (by simp only [World.size_alloc]; omega)
    simp only [World.size_alloc] at this
    exact this
  case hlst => exact hx.below (((Below.refl _ _).alloc (Nat.le_refl _) _).alloc (by simp only [World.size_alloc]; omega) _) (Nat.le_refl _)
  try (case hbase => simp only [World.size_alloc]; omega)
  have hb1 : Below w.heap.size w w1 := by
    have hg0 : ((w.alloc (.cells (pc p0) 27)).alloc (.cells (pc p0) 27)).grownBy w1 (some (w.heap.size + 1)) := hgrow1
    exact Below.grown (((Below.refl _ _).alloc (Nat.le_refl _) _).alloc (by simp only [World.size_alloc]; omega) _) hg0 (by simp only [World.size_alloc]; omega) (by intro k hk; simp only [Option.some.injEq] at hk; omega)
  have hlen : [p0].length + xs.length = (p0 :: xs).length := by simp; omega
  rw [hlen] at hown1
  have hlen2 : (p0 :: xs).length ≤ 1001 := by simp; omega
  clear hgrow1 hx
  have cmx1 : w1.cell? ⟨N, 22, none⟩ = some (.int .i64 mx) := (hb1.cell (p := ⟨N, 22, none⟩) hN).trans cmx
  have cid1 : row? w1 N 0 20 = some (idc s) := (row?_of_block (hb1.block N hN) _ _).trans cid
  have cad1 : w1.cell? ⟨N, 20, none⟩ = some (.string (ad s)) := (hb1.cell (p := ⟨N, 20, none⟩) hN).trans cad
  have hN1 : N < w1.heap.size := by have := hb1.size; omega
  have HB : Hid (Below w.heap.size w w1) := hb1
  have hlI : Lst w1 N (some ⟨g1, 0, none⟩) (p0 :: xs) := hown1.lst_at hN
  clear hb1 hown1 cmx cid cad hN lx
  try rw [hlen]
  generalize hit : p0 :: xs = it at *
  have Hit : Hid (p0 :: xs = it) := hit
  have hle1 : it.length ≤ 1 + xs.length := by rw [← hit]; simp; omega
  have hle2 : 1 + xs.length ≤ it.length := by rw [← hit]; simp; omega
  clear hit hlen
  go_loopw [7, 8, 17] (fun hv ov i wx => ∃ (k : Nat) (acc : List (Fin 8)) (a2 : Option Addr) (c2 : Nat), k ≤ it.length ∧ i = .int .i64 k ∧ hv = .slice a2 acc.length c2 ∧ ov = .int .i64 acc.length ∧ Own wx w1.heap.size (.slice a2 acc.length c2) acc ∧ Below w1.heap.size w1 wx ∧ acc.length ≤ k ∧ succs s mx acc (it.drop k) = succs s mx [] it) (fun _ _ i _ => it.length - (intOf i).toNat)
  case atStart => exact ⟨0, [], none, 0, by omega, rfl, rfl, rfl, own_nil _ _, Below.refl _ _, by simp, rfl⟩
  case round =>
    obtain ⟨k, acc, a2, c2, hk, rfl, rfl, rfl, hown, hb, hak, hh⟩ := hrel
    have hbs2 := hb.size
    have hNr : N < wr.heap.size := by omega
    have cmxR : wr.cell? ⟨N, 22, none⟩ = some (.int .i64 mx) := (hb.cell (p := ⟨N, 22, none⟩) hN1).trans cmx1
    have cidR : row? wr N 0 20 = some (idc s) := (row?_of_block (hb.block N hN1) _ _).trans cid1
    have cadR : wr.cell? ⟨N, 20, none⟩ = some (.string (ad s)) := (hb.cell (p := ⟨N, 20, none⟩) hN1).trans cad1
    by_cases hlt : k < it.length
    · obtain ⟨g, o, ho, hg, _, rx0⟩ := hlI k hlt
      simp only [Option.some.injEq, Addr.mk.injEq, and_true] at ho
      obtain ⟨rfl, rfl⟩ := ho
      have rx : row? wr g1 (k * 21) 21 = some (pc it[k]) := by rw [Nat.zero_add] at rx0; exact (row?_of_block (hb.block g1 hg) _ _).trans rx0
      have hg2 : g1 < wr.heap.size := by omega
      have hk0 : (0 : Int) ≤ (k : Int) := by omega
      have hk1 : (k : Int) < 1 + (xs.length : Int) := by omega
      have hal2 : (acc.length : Int) ≤ 1001 := by omega
      have Hown : Hid (Own wr w1.heap.size (.slice a2 acc.length c2) acc) := hown
      have Hh : Hid (succs s mx acc (it.drop k) = succs s mx [] it) := hh
      have HlI : Hid (Lst w1 N (some ⟨g1, 0, none⟩) it) := hlI
      clear hlI rx0 hown hh cmx1 cid1 cad1
      by_cases hs : it[k] = s
      · have HS : Hid (it[k] = s) := hs
        have hsb : (it[k] == s) = true := by simpa using hs
        clear hs
        generalize hxe : it[k] = p at *
        go_wp2_with fail
        go_quiet (fail)
        go_wp2_with fail
        go_ret
        refine ⟨_, rfl, ?_, below_dN ((HB.out.trans (hb.mono HB.out.size)).alloc (by have := HB.out.size; omega) _) _⟩
        rw [Hit.out, ← Hh.out, succs_self hlt (hxe.trans HS.out)]
        exact (Hown.out.mono HB.out.size).below (below_dN ((Below.refl _ _).alloc (Nat.le_refl _) _) _) (Nat.le_refl _)
      · have HS : Hid (¬ it[k] = s) := hs
        have hsb : (it[k] == s) = false := by simpa using hs
        have hsn : (it[k] != s) = true := by simpa using hs
        clear hs
        generalize hxe : it[k] = p at *
        go_wp2_with fail
        have ownW : Hid (Own (wr.alloc (.cells (pc p) 27)) w1.heap.size (.slice a2 acc.length c2) acc) := Hown.out.below ((Below.refl _ _).alloc (Nat.le_refl _) _) (Nat.le_refl _)
        have HLt : Hid (∀ k, (Value.slice a2 acc.length c2).ownBlock = some k → k < wr.heap.size) := fun k hk => Hown.out.at_lt hk
        have belW : Below w1.heap.size w1 (wr.alloc (.cells (pc p) 27)) := hb.alloc hb.size _
        have rowW : row? (wr.alloc (.cells (pc p) 27)) wr.heap.size 0 21 = some (pc p) := row_new2 _ _
        have cidW : row? (wr.alloc (.cells (pc p) 27)) N 0 20 = some (idc s) := (row?_of_block (belW.block N hN1) _ _).trans ((row?_of_block (hb.block N hN1) _ _).symm.trans cidR)
        have hNW : N < (wr.alloc (.cells (pc p) 27)).heap.size := by simp only [World.size_alloc]; omega
        have hWW : w1.heap.size ≤ (wr.alloc (.cells (pc p) 27)).heap.size := belW.size
        have Hcm : Hid (w1.cell? ⟨N, 22, none⟩ = some (.int .i64 mx)) := (hb.cell (p := ⟨N, 22, none⟩) hN1).symm.trans cmxR
        have Hca : Hid (w1.cell? ⟨N, 20, none⟩ = some (.string (ad s))) := (hb.cell (p := ⟨N, 20, none⟩) hN1).symm.trans cadR
        clear Hown hb rx hbs2 hg2 cmxR cidR cadR hNr
        generalize wr.alloc (.cells (pc p) 27) = V at ownW belW rowW cidW hNW hWW ⊢
        generalize wr.heap.size = P at rowW HLt ⊢
        have hPV := row?_lt rowW
        have rpi : row? V P 0 20 = some (idc p) := by have := row?_sub rowW 0 20 (by omega); simpa only [Nat.zero_add, Nat.add_zero, pc_id] using this
        have LstV : Hid (Lst V N a2 acc) := ownW.out.lst_at (by omega)
        have u25 := Yba.underlying25
        have i25p := size25 p
        have i25s := size25 s
        have ranP : V.rangeAt P 0 (idc p).toList := rangeAt_row rpi rfl
        have ranN : V.rangeAt N 0 (idc s).toList := rangeAt_row cidW rfl
        go_region_with (first | (go_at_call 25; refine (contains26 _ N a2 c2 acc p P (LstV.out.below (B := V.heap.size) (by (repeat (first | exact Below.refl _ _ | refine Below.drew ?_))) (Nat.le_refl _)) (by omega) (by simpa only [row?_drew] using rowW)).mono ?_; rintro e w' ⟨rfl, hb25⟩))
        all_goals
          have hbx : Below V.heap.size V w' := ⟨hb25.os, hb25.tape, hb25.output, hb25.size, hb25.block⟩
          have ownX : Hid (Own w' w1.heap.size (.slice a2 acc.length c2) acc) := ownW.out.below hbx (Nat.le_refl _)
          have belX : Below w1.heap.size w1 w' := belW.trans (hbx.mono belW.size)
          have rp : row? w' P 0 21 = some (pc p) := (row?_of_block (hbx.block P hPV) _ _).trans rowW
          have cmX : w'.cell? ⟨N, 22, none⟩ = some (.int .i64 mx) := (belX.cell (p := ⟨N, 22, none⟩) hN1).trans Hcm.out
          have lstX : Lst w' N a2 acc := LstV.out.below hbx (Nat.le_refl _)
          have hPX := row?_lt rp
          have hwz := belX.size
          have hNX : N < w'.heap.size := by omega
          clear hb25 hbx ownW belW LstV rpi cidW rowW hNW hWW hPV
          by_cases hd : has acc p = true
          · rw [hd]
            go_wp2_with fail
            go_ret
            exact ⟨_, rfl, by rw [Hit.out, ← Hh.out, succs_dup hlt (by rw [hxe]; exact hd)]; exact ownX.out.mono HB.out.size, HB.out.trans (belX.mono HB.out.size)⟩
          · have hd2 : has acc p = false := by simpa using hd
            rw [hd2]
            clear hd
            go_wp2_with fail
            refine (contains27 _ N a2 c2 acc p P lstX (by omega) rp).mono ?_
            rintro e w2 ⟨rfl, hb27⟩
            rw [hd2]
            have ownY : Hid (Own w2 w1.heap.size (.slice a2 acc.length c2) acc) := ownX.out.below hb27 (Nat.le_refl _)
            have belY : Below w1.heap.size w1 w2 := belX.trans (hb27.mono belX.size)
            have rpY : row? w2 P 0 21 = some (pc p) := (row?_of_block (hb27.block P hPX) _ _).trans rp
            have cmY : w2.cell? ⟨N, 22, none⟩ = some (.int .i64 mx) := (belY.cell (p := ⟨N, 22, none⟩) hN1).trans Hcm.out
            have hPY := row?_lt rpY
            have hwy := belY.size
            have hNY : N < w2.heap.size := by omega
            clear hb27 ownX belX rp cmX lstX hPX hwz hNX
            by_cases hfull : mx ≤ (acc.length : Int)
            · have hfd : decide (mx ≤ (acc.length : Int)) = true := by simpa using hfull
              go_wp2_with fail
              go_ret
              exact ⟨_, rfl, by rw [Hit.out, ← Hh.out, succs_full hlt hfull]; exact ownY.out.mono HB.out.size, HB.out.trans (belY.mono HB.out.size)⟩
            · have hfd : decide (mx ≤ (acc.length : Int)) = false := by simpa using hfull
              have Hf : Hid (¬ mx ≤ (acc.length : Int)) := hfull
              clear hfull
              go_wp2_with (at_builtin; refine app_peer (by rfl) _ _ (by rfl) w1.heap.size _ acc (by rfl) ?hown w2.heap.size p (by rfl) ?hB (by omega) ?hbase ?_; rotate_left 3; intro g2 cap2 w3 hown2 hgrow2 hat2 hlt2)
              case hown => exact ownY.out.below ((Below.refl _ _).alloc (Nat.le_refl _) _) (Nat.le_refl _)
              case hB => exact row_new2 _ _
              case hbase => simp only [World.size_alloc]; omega
              have ho := ownY.out.below ((Below.refl _ _).alloc (Nat.le_refl _) (.cells (pc p) 27)) (Nat.le_refl _)
              have belZ : Below w1.heap.size w1 w3 := ho.grown hgrow2 (belY.alloc hwy _) (by simp only [World.size_alloc]; omega)
              have caZ : w3.cell? ⟨N, 20, none⟩ = some (.string (ad s)) := (belZ.cell (p := ⟨N, 20, none⟩) hN1).trans Hca.out
              have cpY : w2.cell? ⟨P, 20, none⟩ = some (.string (ad p)) := by have := row?_cell rpY (j := 20) (by omega); simpa only [Nat.zero_add, pc_addr] using this
              have cpZ : w3.cell? ⟨P, 20, none⟩ = some (.string (ad p)) := by
                refine (World.grownBy.cell_far hgrow2 ⟨P, 20, none⟩ (by simp only [World.size_alloc]; omega) ?_).trans ((World.cell?_alloc_past _ _ _ hPY).trans cpY)
                intro hc
                have := HLt.out P hc.symm
                omega
              have HO : Hid (Own w3 w1.heap.size (.slice (some ⟨g2, 0, none⟩) (acc.length + 1) cap2) (acc ++ [p])) := hown2
              have HBZ : Hid (Below w1.heap.size w1 w3) := belZ
              clear ho hgrow2 hat2 hown2 ownY rpY cmY belY cpY belZ
              go_quiet (fail)
              go_wp2_with fail
              go_roundw
              case rel =>
                exact ⟨k + 1, acc ++ [p], some ⟨g2, 0, none⟩, cap2, by omega, by go_num, by rw [List.length_append]; rfl, by rw [List.length_append]; go_num, by rw [List.length_append]; exact HO.out.below (below_dN (Below.refl _ _) _) (Nat.le_refl _), below_dN HBZ.out _, by simp; omega, by rw [← Hh.out, succs_new hlt (by rw [hxe]; exact HS.out) (by rw [hxe]; exact hd2) (by have := Hf.out; omega), hxe]⟩
              case measure => simp [intOf]; omega
    · have e : it.drop k = [] := List.drop_of_length_le (by omega)
      go_wp2_with fail
      go_ret
      exact ⟨_, rfl, by rw [Hit.out, ← hh, e]; exact hown.mono HB.out.size, HB.out.trans (hb.mono HB.out.size)⟩
end Go.Proofs.Ybulkbsys
