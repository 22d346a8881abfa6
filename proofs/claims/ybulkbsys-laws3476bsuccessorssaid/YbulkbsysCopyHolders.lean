/-
  RINGHOP: (*Node).copyHoldersLocked.
-/
import Derived.Test.YbulkbsysHolders
import Derived.Test.YbulkbsysContains
import Derived.Test.YbulkbsysSpans
import Derived.Deep.RegionHeld3
import Derived.Deep.DrawnRows
namespace Go.Proofs.Ybulkbsys
open Go.RowKit
attribute [local go_sem ↓] ld27 ld25 ld51 st27 st51 al27 al51 bx27 bx51 bx49 bd25 bd27 bd51 bd49 eq27 ne27 eq25 eg27 eg25 pc_addr dpc_pred dpc_rec
attribute [local go_sem] run_ld27 run_ld25 run_ld51 ldOut_some stOut_true run_st27 run_st51 run_al27 run_al51 run_bxRow run_bd25 run_bd27 run_bd51 run_bd51b run_eg27e run_eg27n run_eg25e run_eq27 run_ne27 run_eq25 ad_beq ad_bne ad_fold
attribute [local go_sem] row?_drew loose_drew row?_alloc_past loose_alloc_past row?_alloc_at loose_alloc_at size_setRow loose_setRow loose_setCell row?_setRow_same row?_setRow cell?_setRow frozen?_setRow row?_setCell setRow_drew setRow_alloc_past setRow_alloc_at
attribute [local go_sem] size_pc size_idc size_z27 size_z51 size_dpc single_pc single_z27 single_dpc dpc_node dpc_succ dpc_all pc_id pc_all pc_pop
attribute [local go_sem] row?_drewN loose_drewN alloc_drewN setCell_drewN setRow_drewN
attribute [local go_sem] cell?_alloc_ite newCell_cells frozen?_alloc_ite' row?_alloc_ite newRow?_cells loose_alloc_ite setCell_alloc_ite setNew_cells setRow_alloc_ite layNew_cells
attribute [local go_sem ↓] bs45
attribute [local go_sem] run_bs45
set_option linter.unusedVariables false
set_option linter.unusedSimpArgs false
set_option maxRecDepth 100000 in
set_option maxHeartbeats 4000000 in
theorem copyh_any (w : World) (N : Nat) (q : NS) (a : Option Addr) (ca : Nat) (xs : List (Fin 8)) (h : Nd w N q) (hsc : q.sc = .slice a xs.length ca) (hx : Lst w N a xs) (lx : xs.length ≤ 1000) (r0 : 1 ≤ q.rp) (r1 : q.rp ≤ 1000) :
    Calls Yba.prog 23 #[.pointer (some ⟨N, 0, none⟩)] w fun e w' => ∃ v, e = .returned v ∧ Own w' w.heap.size v (holds q.s q.rp [] xs) ∧ Below w.heap.size w w' := by
  have hN := h.lt
  have csc : w.cell? ⟨N, 35, none⟩ = some (.slice a xs.length ca) := by rw [← hsc]; exact h.sc
  have crp := h.rp
  have cad := h.addr
  clear hsc
  generalize q.rp = r at *
  generalize q.s = s at *
  go_enter Yba.func23, Yba.ntmps23
  go_wp2_with fail
  go_loopw [3, 11] (fun hv i wr => ∃ (k : Nat) (acc : List (Fin 8)) (a' : Option Addr) (c' : Nat), k ≤ xs.length ∧ i = .int .i64 k ∧ hv = .slice a' acc.length c' ∧ Own wr w.heap.size (.slice a' acc.length c') acc ∧ Lst wr N a' acc ∧ Below w.heap.size w wr ∧ acc.length ≤ k ∧ holds s r acc (xs.drop k) = holds s r [] xs) (fun _ i _ => xs.length - (intOf i).toNat)
  case atStart => exact ⟨0, [], none, 0, by omega, rfl, rfl, own_nil _ _, Lst.nil _ _ _, Below.refl _ _, by simp, rfl⟩
  case round =>
    obtain ⟨k, acc, a', c', hk, rfl, rfl, hown, hlst, hb, hak, hh⟩ := hrel
    have hbs := hb.size
    have crp2 : wr.cell? ⟨N, 23, none⟩ = some (.int .i64 r) := (hb.cell (p := ⟨N, 23, none⟩) hN).trans crp
    have cad2 : wr.cell? ⟨N, 20, none⟩ = some (.string (ad s)) := (hb.cell (p := ⟨N, 20, none⟩) hN).trans cad
    have hNr : N < wr.heap.size := by omega
    by_cases hlt : k < xs.length
    · obtain ⟨g, o, rfl, hg, _, rx0⟩ := hx k hlt
      have rx : row? wr g (o + k * 21) 21 = some (pc xs[k]) := (row?_of_block (hb.block g hg) _ _).trans rx0
      have hg2 : g < wr.heap.size := by omega
      have hk0 : (0 : Int) ≤ (k : Int) := by omega
      have hk1 : (k : Int) < (xs.length : Int) := by omega
      have hal : (acc.length : Int) ≤ 1000 := by omega
      have Hown : Hid (Own wr w.heap.size (.slice a' acc.length c') acc) := hown
      have Hh : Hid (holds s r acc (xs.drop k) = holds s r [] xs) := hh
      clear hx rx0 hown hh csc crp cad
      by_cases hfull : (acc.length : Int) = r - 1
      · have hfb : ((acc.length : Int) == r - 1) = true := by simpa using hfull
        have HF : Hid ((acc.length : Int) = r - 1) := hfull
        clear hfull
        go_wp2_with fail
        go_ret
        refine ⟨_, rfl, ?_, hb.alloc hb.size _⟩
        rw [← Hh.out, holds_stop HF.out]
        exact Hown.out.below ((Below.refl _ _).alloc (Nat.le_refl _) _) (Nat.le_refl _)
      · have hfb : ((acc.length : Int) == r - 1) = false := by simpa using hfull
        have HF : Hid (¬ (acc.length : Int) = r - 1) := hfull
        clear hfull
        have Hxe : Hid (xs[k] = xs[k]) := rfl
        by_cases hs : xs[k] = s
        · have HS : Hid (xs[k] = s) := hs
          have hsb : (xs[k] == s) = true := by simpa using hs
          have hsn : (xs[k] != s) = false := by simpa using hs
          clear hs
          generalize hxe : xs[k] = p at *
          go_wp2_with fail
          go_quiet (fail)
          go_wp2_with fail
          go_roundw
          case rel => exact ⟨k + 1, acc, a', c', by omega, by go_num, rfl, Hown.out.below (below_dN ((Below.refl _ _).alloc (Nat.le_refl _) _) _) (Nat.le_refl _), hlst.below (below_dN ((Below.refl _ _).alloc (Nat.le_refl _) _) _) (Nat.le_refl _), below_dN (hb.alloc hb.size _) _, by omega, by rw [← Hh.out, holds_self hlt HF.out (hxe.trans HS.out)]⟩
          case measure => simp [intOf]; omega
        · have HS : Hid (¬ xs[k] = s) := hs
          have hsn : (xs[k] != s) = true := by simpa using hs
          have hsb : (xs[k] == s) = false := by simpa using hs
          clear hs
          generalize hxe : xs[k] = p at *
          go_wp2_with fail
          have ownW : Own (wr.alloc (.cells (pc p) 27)) w.heap.size (.slice a' acc.length c') acc := Hown.out.below ((Below.refl _ _).alloc (Nat.le_refl _) _) (Nat.le_refl _)
          have lstW : Lst (wr.alloc (.cells (pc p) 27)) N a' acc := hlst.below ((Below.refl _ _).alloc (Nat.le_refl _) _) (Nat.le_refl _)
          have belW : Below w.heap.size w (wr.alloc (.cells (pc p) 27)) := hb.alloc hb.size _
          have rowW : row? (wr.alloc (.cells (pc p) 27)) wr.heap.size 0 21 = some (pc p) := row_new2 _ _
          have cadW : (wr.alloc (.cells (pc p) 27)).cell? ⟨N, 20, none⟩ = some (.string (ad s)) := (World.cell?_alloc_past _ _ _ hNr).trans cad2
          have OwnW : Hid (Own (wr.alloc (.cells (pc p) 27)) w.heap.size (.slice a' acc.length c') acc) := ownW
          have LstW : Hid (Lst (wr.alloc (.cells (pc p) 27)) N a' acc) := lstW
          clear Hown hlst hb rx ownW hbs hg2 cad2 crp2 lstW
          have hNW : N < (wr.alloc (.cells (pc p) 27)).heap.size := by simp only [World.size_alloc]; omega
          generalize wr.alloc (.cells (pc p) 27) = W at OwnW LstW belW rowW cadW hNW ⊢
          clear hNr
          generalize wr.heap.size = P at rowW ⊢
          have hPW := row?_lt rowW
          have rpa : W.cell? ⟨P, 20, none⟩ = some (.string (ad p)) := by have := row?_cell rowW (j := 20) (by omega); simpa only [Nat.zero_add, pc_addr] using this
          go_region_held3 (fun w' => w'.cell? ⟨P, 20, none⟩ = some (.string (ad p)) ∧ w'.cell? ⟨N, 20, none⟩ = some (.string (ad s))) ((go_split_ands; (refine ⟨?_, ?_⟩) <;> first | assumption | exact (hb25.cell hPW).trans (by assumption) | exact (hb25.cell hNW).trans (by assumption)))
            (first | (go_at_call 25; refine (contains38 _ N a' c' acc p P (LstW.out.below (Below.refl _ _).drew (Nat.le_refl _)) (by omega) rowW).mono ?_; rintro e w' ⟨rfl, hb25⟩))
          have hbx : Below W.heap.size W w' := ⟨hb25.os, hb25.tape, hb25.output, hb25.size, hb25.block⟩
          have rp : row? w' P 0 21 = some (pc p) := (row?_of_block (hbx.block P hPW) _ _).trans rowW
          have hPx : P < w'.heap.size := row?_lt rp
          have ownX : Hid (Own w' w.heap.size (.slice a' acc.length c') acc) := OwnW.out.below hbx (Nat.le_refl _)
          have lstX : Lst w' N a' acc := LstW.out.below hbx (Nat.le_refl _)
          have belX : Below w.heap.size w w' := belW.trans (hbx.mono belW.size)
          have hwz := belX.size
          clear LstW belW OwnW hb25 hbx cadW rpa rowW
          by_cases hd : has acc p = true
          · rw [show (!has acc p) = false by rw [hd]; rfl]
            go_wp2_with fail
            go_roundw
            case rel => exact ⟨k + 1, acc, a', c', by omega, by go_num, rfl, ownX.out, lstX, belX, by omega, by rw [← Hh.out, holds_dup hlt HF.out (by rw [hxe]; exact hd)]⟩
            case measure => simp [intOf]; omega
          · have hd2 : has acc p = false := by simpa using hd
            clear hd
            rw [show (!has acc p) = true by rw [hd2]; rfl]
            go_wp2_with (at_builtin; refine app_peer (by rfl) _ _ (by rfl) w.heap.size _ acc (by rfl) ?hown w'.heap.size p (by rfl) ?hB (by omega) ?hbase ?_; rotate_left 3; intro g2 cap2 w1 hown2 hgrow2 hat2 hlt2)
            case hown => exact ownX.out.below ((Below.refl _ _).alloc (Nat.le_refl _) _) (Nat.le_refl _)
            case hB => exact row_new2 _ _
            case hbase => simp only [World.size_alloc]; omega
            go_roundw
            case rel =>
              have ho := ownX.out.below ((Below.refl _ _).alloc (Nat.le_refl _) (.cells (pc p) 27)) (Nat.le_refl _)
              exact ⟨k + 1, acc ++ [p], some ⟨g2, 0, none⟩, cap2, by omega, by go_num, by rw [List.length_append]; rfl, by rw [List.length_append]; exact hown2, hown2.lst_at hN, ho.grown hgrow2 (belX.alloc hwz _) (by simp only [World.size_alloc]; omega), by simp; omega, by rw [← Hh.out, holds_new hlt HF.out (by rw [hxe]; exact HS.out) (by rw [hxe]; exact hd2), hxe]⟩
            case measure => simp [intOf]; omega
    · have e : xs.drop k = [] := List.drop_of_length_le (by omega)
      go_wp2_with fail
      go_ret
      exact ⟨_, rfl, by rw [← hh, e]; exact hown, hb⟩
end Go.Proofs.Ybulkbsys
