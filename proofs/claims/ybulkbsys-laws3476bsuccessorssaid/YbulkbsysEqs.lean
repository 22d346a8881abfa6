/-
  RINGHOP: two slices of peers compared: zzs3476beq and slices.Equal.
-/
import Derived.Test.YbulkbsysLists
namespace Go.Proofs.Ybulkbsys
open Go.RowKit
attribute [local go_sem ↓] ld27 ld25 ld51 st27 st51 al27 al51 bx27 bx51 bx49 bd25 bd27 bd51 bd49 eq27 ne27 eq25 eg27 eg25 pc_addr dpc_pred dpc_rec
attribute [local go_sem] run_ld27 run_ld25 run_ld51 ldOut_some stOut_true run_st27 run_st51 run_al27 run_al51 run_bxRow run_bd25 run_bd27 run_bd51 run_bd51b run_eg27e run_eg27n run_eg25e run_eq27 run_ne27 run_eq25 ad_beq ad_bne ad_fold
attribute [local go_sem] row?_drew loose_drew row?_alloc_past loose_alloc_past row?_alloc_at loose_alloc_at size_setRow loose_setRow loose_setCell row?_setRow_same row?_setRow cell?_setRow frozen?_setRow row?_setCell setRow_drew setRow_alloc_past setRow_alloc_at
attribute [local go_sem] size_pc size_idc size_z27 size_z51 size_dpc single_pc single_z27 single_dpc dpc_node dpc_succ dpc_all pc_id pc_all pc_pop
attribute [local go_sem] row?_drewN loose_drewN alloc_drewN setCell_drewN setRow_drewN
attribute [local go_sem] cell?_alloc_ite newCell_cells frozen?_alloc_ite' row?_alloc_ite newRow?_cells loose_alloc_ite setCell_alloc_ite setNew_cells setRow_alloc_ite layNew_cells
set_option linter.unusedVariables false
set_option maxRecDepth 100000 in
set_option maxHeartbeats 1000000 in
theorem eq11 (w : World) (N : Nat) (a b : Option Addr) (ca cb : Nat) (xs ys : List (Fin 8)) (hx : Lst w N a xs) (hy : Lst w N b ys) (lx : xs.length ≤ 100000) (ly : ys.length ≤ 100000) :
    Calls Yba.prog 11 #[.slice a xs.length ca, .slice b ys.length cb] w fun e w' => e = .returned (.bool (xs == ys)) ∧ ∃ n, w' = w.drewN n := by
  by_cases hlen : xs.length = ys.length
  · have hl2 : ((xs.length : Int) != (ys.length : Int)) = false := by simp [hlen]
    have HL : Hid (xs.length = ys.length) := hlen
    have hle : xs.length ≤ ys.length := by omega
    have hge : ys.length ≤ xs.length := by omega
    clear hlen
    go_enter Yba.func11, Yba.ntmps11
    go_wp2_with fail
    go_loopw [13] (fun i wr => ∃ k n : Nat, k ≤ xs.length ∧ i = .int .i64 k ∧ (xs.take k == ys.take k) = true ∧ wr = w.drewN n) (fun i _ => xs.length - (intOf i).toNat)
    case atStart => exact ⟨0, 0, by omega, rfl, by simp, rfl⟩
    case round =>
      obtain ⟨k, n, hk, rfl, hpre, rfl⟩ := hrel
      by_cases hlt : k < xs.length
      · obtain ⟨g, o, rfl, hg, _, rx⟩ := hx k hlt
        obtain ⟨g', o', rfl, hg', _, ry⟩ := hy k (by omega)
        have hk0 : (0 : Int) ≤ (k : Int) := by omega
        have hk1 : (k : Int) < (xs.length : Int) := by omega
        have hk2 : (k : Int) < (ys.length : Int) := by omega
        have Hs : Hid ((xs.take (k + 1) == ys.take (k + 1)) = ((xs.take k == ys.take k) && (xs[k] == ys[k]))) := take_beq_succ hlt (by omega)
        have Hp : Hid ((xs.take k == ys.take k) = true) := hpre
        clear hx hy hpre
        generalize hxe : xs[k] = p at *
        generalize hye : ys[k]'(by omega) = q at *
        by_cases hpq : p = q
        · have hb : (p != q) = false := by simpa using hpq
          have Hb : Hid ((p == q) = true) := by simpa [Hid] using hpq
          clear hpq
          go_wp2_with fail
          go_quiet (fail)
          go_wp2_with fail
          go_roundw
          case rel => exact ⟨k + 1, _, by omega, by go_num, by rw [Hs.out, Hp.out, Hb.out]; rfl, rfl⟩
          case measure => simp [intOf]; omega
        · have hb : (p != q) = true := by simpa using hpq
          have hne : (xs == ys) = false := by
            rw [Bool.eq_false_iff]
            intro h
            simp only [beq_iff_eq] at h
            subst h
            exact hpq (hxe.symm.trans hye)
          clear hpq hxe hye
          go_wp2_with fail
          go_quiet (fail)
          go_wp2_with fail
          go_ret
          exact ⟨by rw [hne]; rfl, _, by rw [World.drewN_drewN]⟩
      · have e : k = xs.length := by omega
        have hE : (xs == ys) = true := by
          rw [List.take_of_length_le (by omega), List.take_of_length_le (by omega)] at hpre
          exact hpre
        go_wp2_with fail
        go_ret
        exact ⟨by rw [hE]; rfl, _, rfl⟩
  · have hl2 : ((xs.length : Int) != (ys.length : Int)) = true := by simp; omega
    have hne : (xs == ys) = false := by
      rw [Bool.eq_false_iff]
      intro h
      simp only [beq_iff_eq] at h
      exact hlen (by rw [h])
    go_enter Yba.func11, Yba.ntmps11
    go_wp2_with fail
    go_ret
    exact ⟨by rw [hne]; rfl, 0, rfl⟩

set_option maxRecDepth 100000 in
set_option maxHeartbeats 1000000 in
theorem eq24 (w : World) (N : Nat) (a b : Option Addr) (ca cb : Nat) (xs ys : List (Fin 8)) (hx : Lst w N a xs) (hy : Lst w N b ys) (lx : xs.length ≤ 100000) (ly : ys.length ≤ 100000) :
    Calls Yba.prog 24 #[.slice a xs.length ca, .slice b ys.length cb] w fun e w' => e = .returned (.bool (xs == ys)) ∧ ∃ n, w' = w.drewN n := by
  by_cases hlen : xs.length = ys.length
  · have hl2 : ((xs.length : Int) != (ys.length : Int)) = false := by simp [hlen]
    have HL : Hid (xs.length = ys.length) := hlen
    have hle : xs.length ≤ ys.length := by omega
    have hge : ys.length ≤ xs.length := by omega
    clear hlen
    go_enter Yba.func24, Yba.ntmps24
    go_wp2_with fail
    go_loopw [13] (fun i wr => ∃ k n : Nat, k ≤ xs.length ∧ i = .int .i64 k ∧ (xs.take k == ys.take k) = true ∧ wr = w.drewN n) (fun i _ => xs.length - (intOf i).toNat)
    case atStart => exact ⟨0, 0, by omega, rfl, by simp, rfl⟩
    case round =>
      obtain ⟨k, n, hk, rfl, hpre, rfl⟩ := hrel
      by_cases hlt : k < xs.length
      · obtain ⟨g, o, rfl, hg, _, rx⟩ := hx k hlt
        obtain ⟨g', o', rfl, hg', _, ry⟩ := hy k (by omega)
        have hk0 : (0 : Int) ≤ (k : Int) := by omega
        have hk1 : (k : Int) < (xs.length : Int) := by omega
        have hk2 : (k : Int) < (ys.length : Int) := by omega
        have Hs : Hid ((xs.take (k + 1) == ys.take (k + 1)) = ((xs.take k == ys.take k) && (xs[k] == ys[k]))) := take_beq_succ hlt (by omega)
        have Hp : Hid ((xs.take k == ys.take k) = true) := hpre
        clear hx hy hpre
        generalize hxe : xs[k] = p at *
        generalize hye : ys[k]'(by omega) = q at *
        by_cases hpq : p = q
        · have hb : (p != q) = false := by simpa using hpq
          have Hb : Hid ((p == q) = true) := by simpa [Hid] using hpq
          clear hpq
          go_wp2_with fail
          go_quiet (fail)
          go_wp2_with fail
          go_roundw
          case rel => exact ⟨k + 1, _, by omega, by go_num, by rw [Hs.out, Hp.out, Hb.out]; rfl, rfl⟩
          case measure => simp [intOf]; omega
        · have hb : (p != q) = true := by simpa using hpq
          have hne : (xs == ys) = false := by
            rw [Bool.eq_false_iff]
            intro h
            simp only [beq_iff_eq] at h
            subst h
            exact hpq (hxe.symm.trans hye)
          clear hpq hxe hye
          go_wp2_with fail
          go_quiet (fail)
          go_wp2_with fail
          go_ret
          exact ⟨by rw [hne]; rfl, _, by rw [World.drewN_drewN]⟩
      · have e : k = xs.length := by omega
        have hE : (xs == ys) = true := by
          rw [List.take_of_length_le (by omega), List.take_of_length_le (by omega)] at hpre
          exact hpre
        go_wp2_with fail
        go_ret
        exact ⟨by rw [hE]; rfl, _, rfl⟩
  · have hl2 : ((xs.length : Int) != (ys.length : Int)) = true := by simp; omega
    have hne : (xs == ys) = false := by
      rw [Bool.eq_false_iff]
      intro h
      simp only [beq_iff_eq] at h
      exact hlen (by rw [h])
    go_enter Yba.func24, Yba.ntmps24
    go_wp2_with fail
    go_ret
    exact ⟨by rw [hne]; rfl, 0, rfl⟩

end Go.Proofs.Ybulkbsys
