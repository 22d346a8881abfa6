/-
  RINGHOP: zzs3476bholders.
-/
import Derived.Test.YbulkbsysLists
namespace Go.Proofs.Ybulkbsys
open Go.RowKit
attribute [local go_sem ↓] ld27 ld25 ld51 st27 st51 al27 al51 bx27 bx51 bx49 bd25 bd27 bd51 bd49 eq27 ne27 eq25 eg27 eg25 pc_addr dpc_pred dpc_rec
attribute [local go_sem] run_ld27 run_ld25 run_ld51 ldOut_some stOut_true run_st27 run_st51 run_al27 run_al51 run_bxRow run_bd25 run_bd27 run_bd51 run_bd51b run_eg27e run_eg27n run_eg25e run_eq27 run_ne27 run_eq25 ad_beq ad_bne ad_fold
attribute [local go_sem] row?_drew loose_drew row?_alloc_past loose_alloc_past row?_alloc_at loose_alloc_at size_setRow loose_setRow loose_setCell row?_setRow_same row?_setRow cell?_setRow frozen?_setRow row?_setCell setRow_drew setRow_alloc_past setRow_alloc_at
attribute [local go_sem] size_pc size_idc size_z27 size_z51 size_dpc single_pc single_z27 single_dpc dpc_node dpc_succ dpc_all pc_id pc_all pc_pop
attribute [local go_sem] row?_drewN loose_drewN alloc_drewN setCell_drewN setRow_drewN
attribute [local go_sem] cell?_alloc_ite newCell_cells frozen?_alloc_ite' row?_alloc_ite newRow?_cells loose_alloc_ite setCell_alloc_ite setNew_cells setRow_alloc_ite layNew_cells
attribute [local go_sem ↓] bs45
attribute [local go_sem] run_bs45
set_option linter.unusedVariables false
theorem row_new2 (w : World) (t : Fin 8) : row? (w.alloc (.cells (pc t) 27)) w.heap.size 0 21 = some (pc t) := by
  rw [row?_alloc_at w _ _ _ _ _ rfl, if_pos (by rw [size_pc]; omega)]
  exact congrArg some (pc_all t)
set_option maxRecDepth 100000 in
set_option maxHeartbeats 4000000 in
theorem holders_any (w : World) (N : Nat) (a : Option Addr) (ca : Nat) (xs : List (Fin 8)) (s : Fin 8) (r : Int) (hx : Lst w N a xs) (lx : xs.length ≤ 1000) (r0 : 1 ≤ r) (r1 : r ≤ 1000) (hN : N < w.heap.size) :
    Calls Yba.prog 9 #[.slice a xs.length ca, .string (ad s), .int .i64 r] w fun e w' => ∃ v, e = .returned v ∧ Own w' w.heap.size v (holds s r [] xs) ∧ Below w.heap.size w w' := by
  go_enter Yba.func9, Yba.ntmps9
  go_wp2_with fail
  go_loopw [7, 15] (fun hv i wr => ∃ (k : Nat) (acc : List (Fin 8)) (a' : Option Addr) (c' : Nat), k ≤ xs.length ∧ i = .int .i64 k ∧ hv = .slice a' acc.length c' ∧ Own wr w.heap.size (.slice a' acc.length c') acc ∧ Lst wr N a' acc ∧ Below w.heap.size w wr ∧ acc.length ≤ k ∧ holds s r acc (xs.drop k) = holds s r [] xs) (fun _ i _ => xs.length - (intOf i).toNat)
  case atStart => exact ⟨0, [], none, 0, by omega, rfl, rfl, own_nil _ _, Lst.nil _ _ _, Below.refl _ _, by simp, rfl⟩
  case round =>
    obtain ⟨k, acc, a', c', hk, rfl, rfl, hown, hlst, hb, hak, hh⟩ := hrel
    have hbs := hb.size
    by_cases hlt : k < xs.length
    · obtain ⟨g, o, rfl, hg, _, rx0⟩ := hx k hlt
      have rx : row? wr g (o + k * 21) 21 = some (pc xs[k]) := (row?_of_block (hb.block g hg) _ _).trans rx0
      have hg2 : g < wr.heap.size := by omega
      have hk0 : (0 : Int) ≤ (k : Int) := by omega
      have hk1 : (k : Int) < (xs.length : Int) := by omega
      have hal : (acc.length : Int) ≤ 1000 := by omega
      have Hown : Hid (Own wr w.heap.size (.slice a' acc.length c') acc) := hown
      have Hh : Hid (holds s r acc (xs.drop k) = holds s r [] xs) := hh
      clear hx rx0 hown hh
      by_cases hfull : (acc.length : Int) = r - 1
      · have hfb : ((acc.length : Int) == r - 1) = true := by simpa using hfull
        have HF : Hid ((acc.length : Int) = r - 1) := hfull
        clear hfull
        go_wp2_with fail
        go_ret
        refine ⟨_, rfl, ?_, hb.alloc hb.size _⟩
        rw [← Hh.out, holds_stop HF.out]
        exact Hown.out.below ((Below.refl _ _).alloc (Nat.le_refl _) _) (Nat.le_refl _)
      · have hfb : ((acc.length : Int) == r - 1) = false := by simpa using hfull
        have HF : Hid (¬ (acc.length : Int) = r - 1) := hfull
        clear hfull
        by_cases hs : xs[k] = s
        · have HS : Hid (xs[k] = s) := hs
          have hsb : (xs[k] == s) = true := by simpa using hs
          clear hs
          generalize hxe : xs[k] = p at *
          go_wp2_with fail
          go_roundw
          case rel => exact ⟨k + 1, acc, a', c', by omega, by go_num, rfl, Hown.out.below ((Below.refl _ _).alloc (Nat.le_refl _) _) (Nat.le_refl _), hlst.below ((Below.refl _ _).alloc (Nat.le_refl _) _) (Nat.le_refl _), hb.alloc hb.size _, by omega, by rw [← Hh.out, holds_self hlt HF.out (hxe.trans HS.out)]⟩
          case measure => simp [intOf]; omega
        · have HS : Hid (¬ xs[k] = s) := hs
          have hsb : (xs[k] == s) = false := by simpa using hs
          clear hs
          have Hxe : Hid (xs[k] = xs[k]) := rfl
          generalize hxe : xs[k] = p at *
          go_wp2_with fail
          have ownW : Own (wr.alloc (.cells (pc p) 27)) w.heap.size (.slice a' acc.length c') acc := Hown.out.below ((Below.refl _ _).alloc (Nat.le_refl _) _) (Nat.le_refl _)
          have lstW : Lst (wr.alloc (.cells (pc p) 27)) N a' acc := hlst.below ((Below.refl _ _).alloc (Nat.le_refl _) _) (Nat.le_refl _)
          have belW : Below w.heap.size w (wr.alloc (.cells (pc p) 27)) := hb.alloc hb.size _
          have rowW : row? (wr.alloc (.cells (pc p) 27)) wr.heap.size 0 21 = some (pc p) := by
            rw [row?_alloc_at wr _ _ _ _ _ rfl, if_pos (by rw [size_pc]; omega)]
            exact congrArg some (pc_all p)
          have OwnW : Hid (Own (wr.alloc (.cells (pc p) 27)) w.heap.size (.slice a' acc.length c') acc) := ownW
          clear Hown hlst hb rx ownW hbs hg2
          generalize wr.alloc (.cells (pc p) 27) = W at OwnW lstW belW rowW ⊢
          generalize wr.heap.size = P at rowW ⊢
          have hPW := row?_lt rowW
          go_loopw [10, 30] (fun d i wx => ∃ j : Nat, j ≤ acc.length ∧ i = .int .i64 j ∧ d = .bool (has (acc.take j) p) ∧ Below W.heap.size W wx) (fun _ i _ => acc.length - (intOf i).toNat)
          case atStart => exact ⟨0, by omega, rfl, rfl, Below.refl _ _⟩
          case round =>
            obtain ⟨j, hj, rfl, rfl, hbx⟩ := hrel
            by_cases hjl : j < acc.length
            · obtain ⟨g', o', rfl, hg', _, ra0⟩ := lstW j hjl
              have ra : row? wr g' (o' + j * 21) 21 = some (pc acc[j]) := (row?_of_block (hbx.block g' hg') _ _).trans ra0
              have rp : row? wr P 0 21 = some (pc p) := (row?_of_block (hbx.block P hPW) _ _).trans rowW
              have rpa : wr.cell? ⟨P, 20, none⟩ = some (.string (ad p)) := by have := row?_cell rp (j := 20) (by omega); simpa only [Nat.zero_add, pc_addr] using this
              have hPx : P < wr.heap.size := row?_lt rp
              have hj0 : (0 : Int) ≤ (j : Int) := by omega
              have hj1 : (j : Int) < (acc.length : Int) := by omega
              have Ht : Hid (has (acc.take (j + 1)) p = (has (acc.take j) p || (acc[j] == p))) := take_contains_succ hjl p
              clear lstW ra0
              generalize acc[j] = y at *
              by_cases hyp : y = p
              · have hyb : (y == p) = true := by simpa using hyp
                clear hyp
                go_wp2_with fail
                go_roundw
                case rel => exact ⟨j + 1, by omega, by go_num, by rw [Ht.out, hyb, Bool.or_true], hbx.alloc hbx.size _⟩
                case measure => simp [intOf]; omega
              · have hyb : (y == p) = false := by simpa using hyp
                clear hyp
                go_wp2_with fail
                go_roundw
                case rel => exact ⟨j + 1, by omega, by go_num, by rw [Ht.out, hyb, Bool.or_false], hbx.alloc hbx.size _⟩
                case measure => simp [intOf]; omega
            · have ej : acc.take j = acc := List.take_of_length_le (by omega)
              rw [ej]
              have rp : row? wr P 0 21 = some (pc p) := (row?_of_block (hbx.block P hPW) _ _).trans rowW
              have hPx : P < wr.heap.size := row?_lt rp
              have ownX : Hid (Own wr w.heap.size (.slice a' acc.length c') acc) := OwnW.out.below hbx (Nat.le_refl _)
              have lstX : Lst wr N a' acc := lstW.below hbx (Nat.le_refl _)
              have belX : Below w.heap.size w wr := belW.trans (hbx.mono belW.size)
              have hwz := belX.size
              clear lstW belW OwnW
              by_cases hd : has acc p = true
              · go_wp2_with fail
                go_roundw
                case rel => exact ⟨k + 1, acc, a', c', by omega, by go_num, rfl, ownX.out, lstX, belX, by omega, by rw [← Hh.out, holds_dup hlt HF.out (by rw [hxe]; exact hd)]⟩
                case measure => simp [intOf]; omega
              · have hd2 : has acc p = false := by simpa using hd
                clear hd
                go_wp2_with (at_builtin; refine app_peer (by rfl) _ _ (by rfl) w.heap.size _ acc (by rfl) ?hown wr.heap.size p (by rfl) ?hB (by omega) ?hbase ?_; rotate_left 3; intro g2 cap2 w1 hown2 hgrow2 hat2 hlt2)
                case hown => exact ownX.out.below ((Below.refl _ _).alloc (Nat.le_refl _) _) (Nat.le_refl _)
                case hB => exact row_new2 _ _
                case hbase => simp only [World.size_alloc]; omega
                go_roundw
                case rel =>
                  have ho := ownX.out.below ((Below.refl _ _).alloc (Nat.le_refl _) (.cells (pc p) 27)) (Nat.le_refl _)
                  exact ⟨k + 1, acc ++ [p], some ⟨g2, 0, none⟩, cap2, by omega, by go_num, by rw [List.length_append]; rfl, by rw [List.length_append]; exact hown2, hown2.lst_at hN, ho.grown hgrow2 (belX.alloc hwz _) (by simp only [World.size_alloc]; omega), by simp; omega, by rw [← Hh.out, holds_new hlt HF.out (by rw [hxe]; exact HS.out) (by rw [hxe]; exact hd2), hxe]⟩
                case measure => simp [intOf]; omega
    · have e : xs.drop k = [] := List.drop_of_length_le (by omega)
      go_wp2_with fail
      go_ret
      exact ⟨_, rfl, by rw [← hh, e]; exact hown, hb⟩
end Go.Proofs.Ybulkbsys
