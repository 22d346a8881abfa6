/-
  RINGHOP: slices.ContainsFunc over peers, with each of the three closures on its road.
-/
import Derived.Test.YbulkbsysLists
namespace Go.Proofs.Ybulkbsys
open Go.RowKit
attribute [local go_sem ↓] ld27 ld25 ld51 st27 st51 al27 al51 bx27 bx51 bx49 bd25 bd27 bd51 bd49 eq27 ne27 eq25 eg27 eg25 pc_addr dpc_pred dpc_rec
attribute [local go_sem] run_ld27 run_ld25 run_ld51 ldOut_some stOut_true run_st27 run_st51 run_al27 run_al51 run_bxRow run_bd25 run_bd27 run_bd51 run_bd51b run_eg27e run_eg27n run_eg25e run_eq27 run_ne27 run_eq25 ad_beq ad_bne ad_fold
attribute [local go_sem] row?_drew loose_drew row?_alloc_past loose_alloc_past row?_alloc_at loose_alloc_at size_setRow loose_setRow loose_setCell row?_setRow_same row?_setRow cell?_setRow frozen?_setRow row?_setCell setRow_drew setRow_alloc_past setRow_alloc_at
attribute [local go_sem] size_pc size_idc size_z27 size_z51 size_dpc single_pc single_z27 single_dpc dpc_node dpc_succ dpc_all pc_id pc_all pc_pop
attribute [local go_sem] row?_drewN loose_drewN alloc_drewN setCell_drewN setRow_drewN
attribute [local go_sem] cell?_alloc_ite newCell_cells frozen?_alloc_ite' row?_alloc_ite newRow?_cells loose_alloc_ite setCell_alloc_ite setNew_cells setRow_alloc_ite layNew_cells
set_option linter.unusedVariables false
set_option maxRecDepth 100000 in
/-- The closures: is the peer handed over the captured one? -/
theorem clo26 (w : World) (x p : Fin 8) (P : Nat) (hp : row? w P 0 21 = some (pc p)) :
    Calls Yba.prog 26 #[.agg (pc x), .pointer (some ⟨P, 0, none⟩)] w fun e w' => e = .returned (.bool (x == p)) ∧ w' = w.alloc (.cells (pc x) 27) := by
  have hlt := row?_lt hp
  have h2 : row? w P 0 20 = some (idc p) := by have := row?_sub hp 0 20 (by omega); simpa only [Nat.zero_add, Nat.add_zero, pc_id] using this
  go_enter Yba.func26, Yba.ntmps26
  go_wp2
  go_ret
  exact ⟨rfl, rfl⟩
set_option maxRecDepth 100000 in
theorem clo27 (w : World) (x p : Fin 8) (P : Nat) (hp : row? w P 0 21 = some (pc p)) :
    Calls Yba.prog 27 #[.agg (pc x), .pointer (some ⟨P, 0, none⟩)] w fun e w' => e = .returned (.bool (x == p)) ∧ w' = w.alloc (.cells (pc x) 27) := by
  have hlt := row?_lt hp
  have h2 : w.cell? ⟨P, 20, none⟩ = some (.string (ad p)) := by have := row?_cell hp (j := 20) (by omega); simpa only [Nat.zero_add, pc_addr] using this
  go_enter Yba.func27, Yba.ntmps27
  go_wp2
  go_ret
  exact ⟨rfl, rfl⟩
set_option maxRecDepth 100000 in
theorem clo38 (w : World) (x p : Fin 8) (P : Nat) (hp : row? w P 0 21 = some (pc p)) :
    Calls Yba.prog 38 #[.agg (pc x), .pointer (some ⟨P, 0, none⟩)] w fun e w' => e = .returned (.bool (x == p)) ∧ w' = w.alloc (.cells (pc x) 27) := by
  have hlt := row?_lt hp
  have h2 : w.cell? ⟨P, 20, none⟩ = some (.string (ad p)) := by have := row?_cell hp (j := 20) (by omega); simpa only [Nat.zero_add, pc_addr] using this
  go_enter Yba.func38, Yba.ntmps38
  go_wp2
  go_ret
  exact ⟨rfl, rfl⟩

set_option maxRecDepth 100000 in
set_option maxHeartbeats 1000000 in
theorem index26 (w : World) (N : Nat) (a : Option Addr) (ca : Nat) (xs : List (Fin 8)) (p : Fin 8) (P : Nat) (hx : Lst w N a xs) (lx : xs.length ≤ 100000) (hp : row? w P 0 21 = some (pc p)) :
    Calls Yba.prog 39 #[.slice a xs.length ca, .func (.func 26) #[] #[.pointer (some ⟨P, 0, none⟩)]] w fun e w' => (∃ n : Int, e = .returned (.int .i64 n) ∧ decide (0 ≤ n) = has xs p) ∧ Below w.heap.size w w' := by
  have hPlt := row?_lt hp
  go_enter Yba.func39, Yba.ntmps39
  go_wp2_with fail
  go_loopw [8] (fun i wr => ∃ k : Nat, k ≤ xs.length ∧ i = .int .i64 k ∧ has (xs.take k) p = false ∧ Below w.heap.size w wr) (fun i _ => xs.length - (intOf i).toNat)
  case atStart => exact ⟨0, by omega, rfl, rfl, Below.refl _ _⟩
  case round =>
    obtain ⟨k, hk, rfl, hpre, hb⟩ := hrel
    by_cases hlt : k < xs.length
    · obtain ⟨g, o, rfl, hg, _, rx0⟩ := hx k hlt
      have rx : row? wr g (o + k * 21) 21 = some (pc xs[k]) := (row?_of_block (hb.block g hg) _ _).trans rx0
      have rp : row? wr P 0 21 = some (pc p) := (row?_of_block (hb.block P hPlt) _ _).trans hp
      have hk0 : (0 : Int) ≤ (k : Int) := by omega
      have hk1 : (k : Int) < (xs.length : Int) := by omega
      have Hs : Hid (has (xs.take (k + 1)) p = (has (xs.take k) p || (xs[k] == p))) := take_contains_succ hlt p
      have Hp : Hid (has (xs.take k) p = false) := hpre
      have Hc : Hid (xs[k] = p → has xs p = true) := fun e => by rw [← e]; simp [has]
      clear hx hpre rx0
      generalize xs[k] = q at *
      by_cases hq : q = p
      · have hqb : (q == p) = true := by simpa using hq
        have HC : Hid (has xs p = true) := Hc.out hq
        clear hq
        go_wp2_with (go_at_call 26; refine (clo26 _ _ _ _ rp).mono ?_; rintro e w' ⟨rfl, rfl⟩)
        go_ret
        exact ⟨⟨_, rfl, by rw [HC.out]; simp⟩, hb.alloc hb.size _⟩
      · have hqb : (q == p) = false := by simpa using hq
        clear hq
        go_wp2_with (go_at_call 26; refine (clo26 _ _ _ _ rp).mono ?_; rintro e w' ⟨rfl, rfl⟩)
        go_roundw
        case rel => exact ⟨k + 1, by omega, by go_num, by rw [Hs.out, Hp.out, hqb]; rfl, hb.alloc hb.size _⟩
        case measure => simp [intOf]; omega
    · have hE : has xs p = false := by
        rw [List.take_of_length_le (by omega)] at hpre
        exact hpre
      go_wp2_with fail
      go_ret
      exact ⟨⟨_, rfl, by rw [hE]; rfl⟩, hb⟩

set_option maxRecDepth 100000 in
set_option maxHeartbeats 1000000 in
theorem contains26 (w : World) (N : Nat) (a : Option Addr) (ca : Nat) (xs : List (Fin 8)) (p : Fin 8) (P : Nat) (hx : Lst w N a xs) (lx : xs.length ≤ 100000) (hp : row? w P 0 21 = some (pc p)) :
    Calls Yba.prog 25 #[.slice a xs.length ca, .func (.func 26) #[] #[.pointer (some ⟨P, 0, none⟩)]] w fun e w' => e = .returned (.bool (has xs p)) ∧ Below w.heap.size w w' := by
  go_enter Yba.func25, Yba.ntmps25
  go_wp2_with fail
  refine (index26 w N a ca xs p P hx lx hp).mono ?_
  rintro e w' ⟨⟨n, rfl, hn⟩, hb⟩
  have Hn : Hid (decide (0 ≤ n) = has xs p) := hn
  clear hn
  go_wp2_with fail
  go_ret
  exact ⟨by rw [← Hn.out]; rfl, hb⟩
set_option maxRecDepth 100000 in
set_option maxHeartbeats 1000000 in
theorem index27 (w : World) (N : Nat) (a : Option Addr) (ca : Nat) (xs : List (Fin 8)) (p : Fin 8) (P : Nat) (hx : Lst w N a xs) (lx : xs.length ≤ 100000) (hp : row? w P 0 21 = some (pc p)) :
    Calls Yba.prog 39 #[.slice a xs.length ca, .func (.func 27) #[] #[.pointer (some ⟨P, 0, none⟩)]] w fun e w' => (∃ n : Int, e = .returned (.int .i64 n) ∧ decide (0 ≤ n) = has xs p) ∧ Below w.heap.size w w' := by
  have hPlt := row?_lt hp
  go_enter Yba.func39, Yba.ntmps39
  go_wp2_with fail
  go_loopw [8] (fun i wr => ∃ k : Nat, k ≤ xs.length ∧ i = .int .i64 k ∧ has (xs.take k) p = false ∧ Below w.heap.size w wr) (fun i _ => xs.length - (intOf i).toNat)
  case atStart => exact ⟨0, by omega, rfl, rfl, Below.refl _ _⟩
  case round =>
    obtain ⟨k, hk, rfl, hpre, hb⟩ := hrel
    by_cases hlt : k < xs.length
    · obtain ⟨g, o, rfl, hg, _, rx0⟩ := hx k hlt
      have rx : row? wr g (o + k * 21) 21 = some (pc xs[k]) := (row?_of_block (hb.block g hg) _ _).trans rx0
      have rp : row? wr P 0 21 = some (pc p) := (row?_of_block (hb.block P hPlt) _ _).trans hp
      have hk0 : (0 : Int) ≤ (k : Int) := by omega
      have hk1 : (k : Int) < (xs.length : Int) := by omega
      have Hs : Hid (has (xs.take (k + 1)) p = (has (xs.take k) p || (xs[k] == p))) := take_contains_succ hlt p
      have Hp : Hid (has (xs.take k) p = false) := hpre
      have Hc : Hid (xs[k] = p → has xs p = true) := fun e => by rw [← e]; simp [has]
      clear hx hpre rx0
      generalize xs[k] = q at *
      by_cases hq : q = p
      · have hqb : (q == p) = true := by simpa using hq
        have HC : Hid (has xs p = true) := Hc.out hq
        clear hq
        go_wp2_with (go_at_call 27; refine (clo27 _ _ _ _ rp).mono ?_; rintro e w' ⟨rfl, rfl⟩)
        go_ret
        exact ⟨⟨_, rfl, by rw [HC.out]; simp⟩, hb.alloc hb.size _⟩
      · have hqb : (q == p) = false := by simpa using hq
        clear hq
        go_wp2_with (go_at_call 27; refine (clo27 _ _ _ _ rp).mono ?_; rintro e w' ⟨rfl, rfl⟩)
        go_roundw
        case rel => exact ⟨k + 1, by omega, by go_num, by rw [Hs.out, Hp.out, hqb]; rfl, hb.alloc hb.size _⟩
        case measure => simp [intOf]; omega
    · have hE : has xs p = false := by
        rw [List.take_of_length_le (by omega)] at hpre
        exact hpre
      go_wp2_with fail
      go_ret
      exact ⟨⟨_, rfl, by rw [hE]; rfl⟩, hb⟩

set_option maxRecDepth 100000 in
set_option maxHeartbeats 1000000 in
theorem contains27 (w : World) (N : Nat) (a : Option Addr) (ca : Nat) (xs : List (Fin 8)) (p : Fin 8) (P : Nat) (hx : Lst w N a xs) (lx : xs.length ≤ 100000) (hp : row? w P 0 21 = some (pc p)) :
    Calls Yba.prog 25 #[.slice a xs.length ca, .func (.func 27) #[] #[.pointer (some ⟨P, 0, none⟩)]] w fun e w' => e = .returned (.bool (has xs p)) ∧ Below w.heap.size w w' := by
  go_enter Yba.func25, Yba.ntmps25
  go_wp2_with fail
  refine (index27 w N a ca xs p P hx lx hp).mono ?_
  rintro e w' ⟨⟨n, rfl, hn⟩, hb⟩
  have Hn : Hid (decide (0 ≤ n) = has xs p) := hn
  clear hn
  go_wp2_with fail
  go_ret
  exact ⟨by rw [← Hn.out]; rfl, hb⟩

set_option maxRecDepth 100000 in
set_option maxHeartbeats 1000000 in
theorem index38 (w : World) (N : Nat) (a : Option Addr) (ca : Nat) (xs : List (Fin 8)) (p : Fin 8) (P : Nat) (hx : Lst w N a xs) (lx : xs.length ≤ 100000) (hp : row? w P 0 21 = some (pc p)) :
    Calls Yba.prog 39 #[.slice a xs.length ca, .func (.func 38) #[] #[.pointer (some ⟨P, 0, none⟩)]] w fun e w' => (∃ n : Int, e = .returned (.int .i64 n) ∧ decide (0 ≤ n) = has xs p) ∧ Below w.heap.size w w' := by
  have hPlt := row?_lt hp
  go_enter Yba.func39, Yba.ntmps39
  go_wp2_with fail
  go_loopw [8] (fun i wr => ∃ k : Nat, k ≤ xs.length ∧ i = .int .i64 k ∧ has (xs.take k) p = false ∧ Below w.heap.size w wr) (fun i _ => xs.length - (intOf i).toNat)
  case atStart => exact ⟨0, by omega, rfl, rfl, Below.refl _ _⟩
  case round =>
    obtain ⟨k, hk, rfl, hpre, hb⟩ := hrel
    by_cases hlt : k < xs.length
    · obtain ⟨g, o, rfl, hg, _, rx0⟩ := hx k hlt
      have rx : row? wr g (o + k * 21) 21 = some (pc xs[k]) := (row?_of_block (hb.block g hg) _ _).trans rx0
      have rp : row? wr P 0 21 = some (pc p) := (row?_of_block (hb.block P hPlt) _ _).trans hp
      have hk0 : (0 : Int) ≤ (k : Int) := by omega
      have hk1 : (k : Int) < (xs.length : Int) := by omega
      have Hs : Hid (has (xs.take (k + 1)) p = (has (xs.take k) p || (xs[k] == p))) := take_contains_succ hlt p
      have Hp : Hid (has (xs.take k) p = false) := hpre
      have Hc : Hid (xs[k] = p → has xs p = true) := fun e => by rw [← e]; simp [has]
      clear hx hpre rx0
      generalize xs[k] = q at *
      by_cases hq : q = p
      · have hqb : (q == p) = true := by simpa using hq
        have HC : Hid (has xs p = true) := Hc.out hq
        clear hq
        go_wp2_with (go_at_call 38; refine (clo38 _ _ _ _ rp).mono ?_; rintro e w' ⟨rfl, rfl⟩)
        go_ret
        exact ⟨⟨_, rfl, by rw [HC.out]; simp⟩, hb.alloc hb.size _⟩
      · have hqb : (q == p) = false := by simpa using hq
        clear hq
        go_wp2_with (go_at_call 38; refine (clo38 _ _ _ _ rp).mono ?_; rintro e w' ⟨rfl, rfl⟩)
        go_roundw
        case rel => exact ⟨k + 1, by omega, by go_num, by rw [Hs.out, Hp.out, hqb]; rfl, hb.alloc hb.size _⟩
        case measure => simp [intOf]; omega
    · have hE : has xs p = false := by
        rw [List.take_of_length_le (by omega)] at hpre
        exact hpre
      go_wp2_with fail
      go_ret
      exact ⟨⟨_, rfl, by rw [hE]; rfl⟩, hb⟩

set_option maxRecDepth 100000 in
set_option maxHeartbeats 1000000 in
theorem contains38 (w : World) (N : Nat) (a : Option Addr) (ca : Nat) (xs : List (Fin 8)) (p : Fin 8) (P : Nat) (hx : Lst w N a xs) (lx : xs.length ≤ 100000) (hp : row? w P 0 21 = some (pc p)) :
    Calls Yba.prog 25 #[.slice a xs.length ca, .func (.func 38) #[] #[.pointer (some ⟨P, 0, none⟩)]] w fun e w' => e = .returned (.bool (has xs p)) ∧ Below w.heap.size w w' := by
  go_enter Yba.func25, Yba.ntmps25
  go_wp2_with fail
  refine (index38 w N a ca xs p P hx lx hp).mono ?_
  rintro e w' ⟨⟨n, rfl, hn⟩, hb⟩
  have Hn : Hid (decide (0 ≤ n) = has xs p) := hn
  clear hn
  go_wp2_with fail
  go_ret
  exact ⟨by rw [← Hn.out]; rfl, hb⟩

end Go.Proofs.Ybulkbsys
