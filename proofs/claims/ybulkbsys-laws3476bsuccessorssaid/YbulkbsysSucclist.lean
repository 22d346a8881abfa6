/-
  RINGHOP: zzs3476bsucclist.
-/
import Derived.Test.YbulkbsysHolders
namespace Go.Proofs.Ybulkbsys
open Go.RowKit
attribute [local go_sem ↓] ld27 ld25 ld51 st27 st51 al27 al51 bx27 bx51 bx49 bd25 bd27 bd51 bd49 eq27 ne27 eq25 eg27 eg25 pc_addr dpc_pred dpc_rec
attribute [local go_sem] run_ld27 run_ld25 run_ld51 ldOut_some stOut_true run_st27 run_st51 run_al27 run_al51 run_bxRow run_bd25 run_bd27 run_bd51 run_bd51b run_eg27e run_eg27n run_eg25e run_eq27 run_ne27 run_eq25 ad_beq ad_bne ad_fold
attribute [local go_sem] row?_drew loose_drew row?_alloc_past loose_alloc_past row?_alloc_at loose_alloc_at size_setRow loose_setRow loose_setCell row?_setRow_same row?_setRow cell?_setRow frozen?_setRow row?_setCell setRow_drew setRow_alloc_past setRow_alloc_at
attribute [local go_sem] size_pc size_idc size_z27 size_z51 size_dpc single_pc single_z27 single_dpc dpc_node dpc_succ dpc_all pc_id pc_all pc_pop
attribute [local go_sem] row?_drewN loose_drewN alloc_drewN setCell_drewN setRow_drewN
attribute [local go_sem] cell?_alloc_ite newCell_cells frozen?_alloc_ite' row?_alloc_ite newRow?_cells loose_alloc_ite setCell_alloc_ite setNew_cells setRow_alloc_ite layNew_cells
attribute [local go_sem ↓] bs45
attribute [local go_sem] run_bs45
set_option linter.unusedVariables false
theorem row_newB (w : World) (t : Fin 8) (B : Nat) (h : B = w.heap.size) : row? (w.alloc (.cells (pc t) 27)) B 0 21 = some (pc t) := by subst h; exact row_new2 _ _
set_option maxRecDepth 100000 in
set_option maxHeartbeats 4000000 in
theorem slist_any (w : World) (N : Nat) (a : Option Addr) (ca : Nat) (xs : List (Fin 8)) (s p0 : Fin 8) (mx : Int) (hx : Lst w N a xs) (lx : xs.length ≤ 1000) (m0 : 1 ≤ mx) (m1 : mx ≤ 1000) (hN : N < w.heap.size) :
    Calls Yba.prog 10 #[.agg (pc s), .agg (pc p0), .slice a xs.length ca, .int .i64 mx] w fun e w' => ∃ v, e = .returned v ∧ Own w' w.heap.size v (succs s mx [] (p0 :: xs)) ∧ Below w.heap.size w w' := by
  go_enter Yba.func10, Yba.ntmps10
  go_wp2_with fail
  go_loopw [9, 22] (fun hv i wr => ∃ (k : Nat) (acc : List (Fin 8)) (a' : Option Addr) (c' : Nat), k ≤ xs.length ∧ i = .int .i64 k ∧ hv = .slice a' acc.length c' ∧ Own wr (w.heap.size + 1) (.slice a' acc.length c') acc ∧ Below (w.heap.size + 1) (w.alloc (.cells (pc s) 27)) wr ∧ acc = p0 :: xs.take k) (fun _ i _ => xs.length - (intOf i).toNat)
  case atStart =>
    refine ⟨0, [p0], some ⟨w.heap.size + 1 + 1, 0, none⟩, 1, by omega, rfl, rfl, ?_, ?_, rfl⟩
    · have := own_one ((w.alloc (Obj.cells (pc s) 27)).alloc (Obj.cells (pc p0) 27)) (w.heap.size + 1) p0 (by simp only [World.size_alloc]; omega)
      simp only [World.size_alloc] at this
      exact this
    · exact ((Below.refl _ _).alloc (by simp only [World.size_alloc]; omega) _).alloc (by simp only [World.size_alloc]; omega) _
  case round =>
    obtain ⟨k, acc, a', c', hk, rfl, rfl, hown, hb, hacc⟩ := hrel
    have hbs : w.heap.size + 1 ≤ wr.heap.size := by have := hb.size; simpa only [World.size_alloc] using this
    have hacl : acc.length = k + 1 := by rw [hacc]; simp; omega
    have hal : acc.length ≤ 1001 := by omega
    have Hacc : Hid (acc = p0 :: xs.take k) := hacc
    have Hown : Hid (Own wr (w.heap.size + 1) (.slice a' acc.length c') acc) := hown
    clear hacc hown hacl
    by_cases hlt : k < xs.length
    · obtain ⟨g, o, rfl, hg, _, rx0⟩ := hx k hlt
      have rx : row? wr g (o + k * 21) 21 = some (pc xs[k]) := (row?_of_block ((hb.block g (by omega)).trans (Below.heap_alloc _ _ _ hg)) _ _).trans rx0
      have hg2 : g < wr.heap.size := by omega
      have hk0 : (0 : Int) ≤ (k : Int) := by omega
      have hk1 : (k : Int) < (xs.length : Int) := by omega
      have Hnext : Hid (acc ++ [xs[k]] = p0 :: xs.take (k + 1)) := by
        rw [Hacc.out, List.take_succ_eq_append_getElem hlt]; rfl
      clear hx rx0 Hacc
      generalize xs[k] = p at *
      go_wp2_with (at_builtin; refine app_peer (by rfl) _ _ (by rfl) (w.heap.size + 1) _ acc (by rfl) ?hown (wr.heap.size + 1) p (by rfl) ?hB (by omega) ?hbase ?_; rotate_left 3; intro g2 cap2 w1 hown2 hgrow2 hat2 hlt2)
      case hown => exact Hown.out.below (((Below.refl _ _).alloc (Nat.le_refl _) _).alloc (by simp only [World.size_alloc]; omega) _) (Nat.le_refl _)
      case hB => exact row_newB _ _ _ (by simp only [World.size_alloc])
      case hbase => simp only [World.size_alloc]; omega
      go_roundw
      case rel =>
        have ho := Hown.out.below (((Below.refl _ _).alloc (Nat.le_refl _) (.cells (pc p) 27)).alloc (by simp only [World.size_alloc]; omega) (.cells (pc p) 27)) (Nat.le_refl _)
        have hb1 := (hb.alloc hbs (.cells (pc p) 27)).alloc (by simp only [World.size_alloc]; omega) (.cells (pc p) 27)
        refine ⟨k + 1, acc ++ [p], some ⟨g2, 0, none⟩, cap2, by omega, by go_num, by rw [List.length_append]; rfl, by rw [List.length_append]; exact hown2, ho.grown hgrow2 hb1 (by simp only [World.size_alloc]; omega), Hnext.out⟩
      case measure => simp [intOf]; omega
    · have e : k = xs.length := by omega
      subst e
      obtain rfl : acc = p0 :: xs := by rw [Hacc.out, List.take_length]
      have hlI : Lst wr N a' (p0 :: xs) := Hown.out.lst_at (by omega)
      have rself : row? wr w.heap.size 0 21 = some (pc s) := (row?_of_block (hb.block w.heap.size (by omega)) _ _).trans (row_new2 _ _)
      have hself : row? wr w.heap.size 0 20 = some (idc s) := by have := row?_sub rself 0 20 (by omega); simpa only [Nat.zero_add, Nat.add_zero, pc_id] using this
      have HB : Hid (Below w.heap.size w wr) := ((Below.refl _ _).alloc (Nat.le_refl _) _).trans (hb.mono (by omega))
      clear hx Hacc Hown hb rself
      go_wp2_with fail
      have hle1 : (p0 :: xs).length ≤ xs.length + 1 := by simp
      have hle2 : xs.length + 1 ≤ (p0 :: xs).length := by simp
      generalize hit : p0 :: xs = it at hlI hal hle1 hle2 ⊢
      have Hit : Hid (p0 :: xs = it) := hit
      clear hit hk hlt
      generalize wr = W at hbs hlI hself HB ⊢
      have hsW := row?_lt hself
      go_loopw [12, 33] (fun hv i wx => ∃ (k : Nat) (acc : List (Fin 8)) (a2 : Option Addr) (c2 : Nat), k ≤ it.length ∧ i = .int .i64 k ∧ hv = .slice a2 acc.length c2 ∧ Own wx W.heap.size (.slice a2 acc.length c2) acc ∧ Below W.heap.size W wx ∧ acc.length ≤ k ∧ succs s mx acc (it.drop k) = succs s mx [] it) (fun _ i _ => it.length - (intOf i).toNat)
      case atStart => exact ⟨0, [], none, 0, by omega, rfl, rfl, own_nil _ _, Below.refl _ _, by simp, rfl⟩
      case round =>
        obtain ⟨k, acc, a2, c2, hk, rfl, rfl, hown, hb, hak, hh⟩ := hrel
        have hbs2 := hb.size
        have hselfR : row? wr w.heap.size 0 20 = some (idc s) := (row?_of_block (hb.block _ hsW) _ _).trans hself
        have hsR : w.heap.size < wr.heap.size := by omega
        by_cases hlt : k < it.length
        · obtain ⟨g, o, rfl, hg, _, rx0⟩ := hlI k hlt
          have rx : row? wr g (o + k * 21) 21 = some (pc it[k]) := (row?_of_block (hb.block g hg) _ _).trans rx0
          have hg2 : g < wr.heap.size := by omega
          have hk0 : (0 : Int) ≤ (k : Int) := by omega
          have hk1 : (k : Int) < (it.length : Int) := by omega
          have hal2 : (acc.length : Int) ≤ 1001 := by omega
          have Hown : Hid (Own wr W.heap.size (.slice a2 acc.length c2) acc) := hown
          have Hh : Hid (succs s mx acc (it.drop k) = succs s mx [] it) := hh
          clear hlI rx0 hown hh
          by_cases hs : it[k] = s
          · have HS : Hid (it[k] = s) := hs
            have hsb : (it[k] == s) = true := by simpa using hs
            clear hs
            generalize hxe : it[k] = p at *
            go_wp2_with fail
            go_ret
            refine ⟨_, rfl, ?_, (HB.out.trans (hb.mono HB.out.size)).alloc (by omega) _⟩
            rw [Hit.out, ← Hh.out, succs_self hlt (hxe.trans HS.out)]
            exact (Hown.out.mono HB.out.size).below ((Below.refl _ _).alloc (Nat.le_refl _) _) (Nat.le_refl _)
          · have HS : Hid (¬ it[k] = s) := hs
            have hsb : (it[k] == s) = false := by simpa using hs
            clear hs
            generalize hxe : it[k] = p at *
            go_wp2_with fail
            have ownW : Hid (Own (wr.alloc (.cells (pc p) 27)) W.heap.size (.slice a2 acc.length c2) acc) := Hown.out.below ((Below.refl _ _).alloc (Nat.le_refl _) _) (Nat.le_refl _)
            have belW : Below W.heap.size W (wr.alloc (.cells (pc p) 27)) := hb.alloc hb.size _
            have rowW : row? (wr.alloc (.cells (pc p) 27)) wr.heap.size 0 21 = some (pc p) := row_new2 _ _
            clear Hown hb rx hbs2 hg2 hselfR hsR
            generalize wr.alloc (.cells (pc p) 27) = V at ownW belW rowW ⊢
            generalize wr.heap.size = P at rowW ⊢
            have hPV := row?_lt rowW
            have lstV : Lst V N a2 acc := ownW.out.lst_at (by omega)
            go_loopw [15, 44] (fun d i wx => ∃ j : Nat, j ≤ acc.length ∧ i = .int .i64 j ∧ d = .bool (has (acc.take j) p) ∧ Below V.heap.size V wx) (fun _ i _ => acc.length - (intOf i).toNat)
            case atStart => exact ⟨0, by omega, rfl, rfl, Below.refl _ _⟩
            case round =>
              obtain ⟨j, hj, rfl, rfl, hbx⟩ := hrel
              have rp : row? wr P 0 21 = some (pc p) := (row?_of_block (hbx.block P hPV) _ _).trans rowW
              have hPx : P < wr.heap.size := row?_lt rp
              by_cases hjl : j < acc.length
              · obtain ⟨g', o', rfl, hg', _, ra0⟩ := lstV j hjl
                have ra : row? wr g' (o' + j * 21) 21 = some (pc acc[j]) := (row?_of_block (hbx.block g' hg') _ _).trans ra0
                have rpa : row? wr P 0 20 = some (idc p) := by have := row?_sub rp 0 20 (by omega); simpa only [Nat.zero_add, Nat.add_zero, pc_id] using this
                have hj0 : (0 : Int) ≤ (j : Int) := by omega
                have hj1 : (j : Int) < (acc.length : Int) := by omega
                have Ht : Hid (has (acc.take (j + 1)) p = (has (acc.take j) p || (acc[j] == p))) := take_contains_succ hjl p
                clear lstV ra0
                generalize acc[j] = y at *
                by_cases hyp : y = p
                · have hyb : (y == p) = true := by simpa using hyp
                  clear hyp
                  go_wp2_with fail
                  go_roundw
                  case rel => exact ⟨j + 1, by omega, by go_num, by rw [Ht.out, hyb, Bool.or_true], hbx.alloc hbx.size _⟩
                  case measure => simp [intOf]; omega
                · have hyb : (y == p) = false := by simpa using hyp
                  clear hyp
                  go_wp2_with fail
                  go_roundw
                  case rel => exact ⟨j + 1, by omega, by go_num, by rw [Ht.out, hyb, Bool.or_false], hbx.alloc hbx.size _⟩
                  case measure => simp [intOf]; omega
              · have ej : acc.take j = acc := List.take_of_length_le (by omega)
                rw [ej]
                have ownX : Hid (Own wr W.heap.size (.slice a2 acc.length c2) acc) := ownW.out.below hbx (Nat.le_refl _)
                have belX : Below W.heap.size W wr := belW.trans (hbx.mono belW.size)
                have hwz := belX.size
                clear lstV belW ownW ej
                by_cases hd : has acc p = true
                · go_wp2_with fail
                  go_ret
                  exact ⟨_, rfl, by rw [Hit.out, ← Hh.out, succs_dup hlt (by rw [hxe]; exact hd)]; exact ownX.out.mono HB.out.size, HB.out.trans (belX.mono HB.out.size)⟩
                · have hd2 : has acc p = false := by simpa using hd
                  clear hd
                  by_cases hfull : mx ≤ (acc.length : Int)
                  · have hfd : decide (mx ≤ (acc.length : Int)) = true := by simpa using hfull
                    go_wp2_with fail
                    go_ret
                    exact ⟨_, rfl, by rw [Hit.out, ← Hh.out, succs_full hlt hfull]; exact ownX.out.mono HB.out.size, HB.out.trans (belX.mono HB.out.size)⟩
                  · have hfd : decide (mx ≤ (acc.length : Int)) = false := by simpa using hfull
                    go_wp2_with (at_builtin; refine app_peer (by rfl) _ _ (by rfl) W.heap.size _ acc (by rfl) ?hown wr.heap.size p (by rfl) ?hB (by omega) ?hbase ?_; rotate_left 3; intro g2 cap2 w1 hown2 hgrow2 hat2 hlt2)
                    case hown => exact ownX.out.below ((Below.refl _ _).alloc (Nat.le_refl _) _) (Nat.le_refl _)
                    try (case hB => exact row_new2 _ _)
                    case hbase => (try simp only [World.size_alloc]); omega
                    go_roundw
                    case rel =>
                      have ho := ownX.out.below ((Below.refl _ _).alloc (Nat.le_refl _) (.cells (pc p) 27)) (Nat.le_refl _)
                      exact ⟨k + 1, acc ++ [p], some ⟨g2, 0, none⟩, cap2, by omega, by go_num, by rw [List.length_append]; rfl, by rw [List.length_append]; exact hown2, ho.grown hgrow2 (belX.alloc hwz _) (by simp only [World.size_alloc]; omega), by simp; omega, by rw [← Hh.out, succs_new hlt (by rw [hxe]; exact HS.out) (by rw [hxe]; exact hd2) hfull, hxe]⟩
                    case measure => simp [intOf]; omega
        · have e : it.drop k = [] := List.drop_of_length_le (by omega)
          go_wp2_with fail
          go_ret
          exact ⟨_, rfl, by rw [Hit.out, ← hh, e]; exact hown.mono HB.out.size, HB.out.trans (hb.mono HB.out.size)⟩
end Go.Proofs.Ybulkbsys
