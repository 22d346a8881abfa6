/-
  TIDEWATCH: LawS3479AGiveCounts, walked.
-/
import Derived.Test.YbulkbtaiHeld
namespace Go.Proofs.Ybulkbtai
open Go.RowKit Go.Maps Go.MuLone
set_option linter.unusedVariables false
set_option linter.unusedSimpArgs false
set_option maxRecDepth 100000 in
set_option maxHeartbeats 4000000 in
theorem give_law (w : World) (a0 : Int) (ain : Option Addr) (n cap : Nat) (op kk : Nat → Int) (b00 : 0 ≤ a0) (b01 : a0 ≤ 255) (hbig : n ≤ 1024)
    (hc : ∀ i, i < n → ∃ b off, ain = some ⟨b, off, none⟩ ∧ b < w.heap.size ∧ w.cell? ⟨b, off + i * 2, none⟩ = some (.int .u8 (op i)) ∧ w.cell? ⟨b, off + i * 2 + 1, none⟩ = some (.int .u8 (kk i)))
    (ho : ∀ i, i < n → 0 ≤ op i ∧ op i ≤ 255 ∧ 0 ≤ kk i ∧ kk i ≤ 255) :
    Calls Yba.prog 3 #[.int .u8 a0, .slice ain n cap] w fun e w' => e = .returned (.bool true) ∧ Below w.heap.size w w' := by
  have hn3 : decide ((1024 : Int) < (n : Int)) = false := by simp; omega
  have hn1 : (n : Int) ≤ 1024 := by omega
  go_enter Yba.func3, Yba.ntmps3
  go_wp2_with fail
  obtain ⟨hq, hmd⟩ := two_blocks w #[.int .i64 (a0 % 6), .int .i32 0, .int .u32 0, .map none] #[.int .i64 0, .int .i64 0, .int .i64 0, .int .i64 0, .int .i64 0, .int .i64 0, .int .i64 0, .int .i64 0] 33 34
  have hbl : Below w.heap.size w ((w.alloc (.cells #[.int .i64 (a0 % 6), .int .i32 0, .int .u32 0, .map none] 33)).alloc (.cells #[.int .i64 0, .int .i64 0, .int .i64 0, .int .i64 0, .int .i64 0, .int .i64 0, .int .i64 0, .int .i64 0] 34)) := ((Below.refl _ _).alloc (Nat.le_refl _) _).alloc (by simp only [World.size_alloc]; omega) _
  generalize (w.alloc (.cells #[.int .i64 (a0 % 6), .int .i32 0, .int .u32 0, .map none] 33)).alloc (.cells #[.int .i64 0, .int .i64 0, .int .i64 0, .int .i64 0, .int .i64 0, .int .i64 0, .int .i64 0, .int .i64 0] 34) = W0 at *
  have l0 : 0 ≤ a0 % 6 := by omega
  have l1 : a0 % 6 ≤ 5 := by omega
  generalize a0 % 6 = lim at *
  have hQ0 : Qc W0 w.heap.size lim (.map none) := ⟨(hq 0).1, (hq 1).1, (hq 3).1, (hq 1).2, (hq 3).2⟩
  have hM0 : Md W0 (w.heap.size + 1) (fun _ => 0) := fun j hj => ⟨by rw [(hmd j).1]; rcases j with _ | _ | _ | _ | _ | _ | _ | _ | j <;> first | rfl | omega, (hmd j).2⟩
  have HC : Hid (∀ i, i < n → ∃ b off, ain = some ⟨b, off, none⟩ ∧ b < w.heap.size ∧ w.cell? ⟨b, off + i * 2, none⟩ = some (.int .u8 (op i)) ∧ w.cell? ⟨b, off + i * 2 + 1, none⟩ = some (.int .u8 (kk i))) := hc
  have HO : Hid (∀ i, i < n → 0 ≤ op i ∧ op i ≤ 255 ∧ 0 ≤ kk i ∧ kk i ≤ 255) := ho
  clear hq hmd hc ho
  go_loopw [8] (fun i wr => ∃ (k : Nat) (m : Nat → Int) (v : Value), k ≤ n ∧ i = .int .i64 k ∧ Qc wr w.heap.size lim v ∧ Held wr w.heap.size v k m ∧ Md wr (w.heap.size + 1) m ∧ (∀ j, j < 8 → 0 ≤ m j ∧ m j ≤ lim) ∧ Below w.heap.size w wr) (fun i _ => n - (intOf i).toNat)
  case atStart => exact ⟨0, fun _ => 0, _, by omega, rfl, hQ0, .inl ⟨rfl, fun _ _ => rfl⟩, hM0, fun _ _ => ⟨Int.le_refl _, l0⟩, hbl⟩
  case round =>
    obtain ⟨k, m, v, hk, rfl, hqc, hh, hmd, hmb, hb⟩ := hrel
    clear hQ0 hM0 hbl
    by_cases hlt : k < n
    · obtain ⟨b, off, rfl, hbz, hc0, hc1⟩ := HC.out k hlt
      obtain ⟨o0, o1, q0, q1⟩ := HO.out k hlt
      have co : wr.cell? ⟨b, off + k * 2, none⟩ = some (.int .u8 (op k)) := (hb.cell (p := ⟨b, off + k * 2, none⟩) hbz).trans hc0
      have ck : wr.cell? ⟨b, off + k * 2 + 1, none⟩ = some (.int .u8 (kk k)) := (hb.cell (p := ⟨b, off + k * 2 + 1, none⟩) hbz).trans hc1
      have hj3 : (0 : Int) ≤ (k : Int) := by omega
      have hj4 : (k : Int) < (n : Int) := by omega
      obtain ⟨j, hj, ej⟩ : ∃ j : Nat, j < 8 ∧ kk k % 8 = (j : Int) := ⟨(kk k % 8).toNat, by omega, by omega⟩
      have hj5 : (0 : Int) ≤ (j : Int) := by omega
      have hj6 : (j : Int) < 8 := by omega
      obtain ⟨cm, fm⟩ := hmd j hj
      obtain ⟨mb0, mb1⟩ := hmb j hj
      have HQ := Hid.mk' hqc
      have HH := Hid.mk' hh
      have HMD := Hid.mk' hmd
      have HMB := Hid.mk' hmb
      have HBB := Hid.mk' hb
      clear hqc hh hmd hmb hb hc0 hc1
      rcases Int.emod_two_eq (op k) with eo | eo
      · go_wp2_with fail
        refine (take_any wr w.heap.size w.heap.size lim v k m j HQ.out HH.out hj mb0 (by omega) l0 (by omega) (by omega) (Nat.le_refl _)).mono ?_
        rintro e w1 ⟨rfl, ⟨v', hqc1, hh1⟩, hk1, hb1⟩
        by_cases hl : m j < lim
        · rw [if_pos hl] at hh1
          rw [decide_eq_true hl]
          have hmd1 := HMD.out.kept hk1 (by omega)
          obtain ⟨cm1, fm1⟩ := hmd1 j hj
          have HQ2 := Hid.mk' (hqc1.setCell (M := w.heap.size + 1) (o := j) (by omega) (.int .i64 (m j + 1)))
          have HH2 := Hid.mk' (hh1.setCell cm1 (.int .i64 (m j + 1)))
          have HMD2 := Hid.mk' (hmd1.set hj (m j + 1))
          have HMB2 := Hid.mk' (upd_bounds HMB.out (j := j) (v := m j + 1) (by omega) (by omega))
          have HB2 : Hid (Below w.heap.size w (w1.setCell ⟨w.heap.size + 1, j, none⟩ (.int .i64 (m j + 1)))) := (HBB.out.trans hb1).setCell (Nat.le_succ _) _
          clear hqc1 hh1 hk1 hb1 hmd1 co ck cm fm
          go_wp2_with fail
          refine (check_any _ w.heap.size (w.heap.size + 1) lim v' (upd m j (m j + 1)) HQ2.out l0 (by omega) (fun i hi => (HMD2.out i hi).1) (fun i hi => ⟨(HMB2.out i hi).1, Int.le_trans (HMB2.out i hi).2 (by omega)⟩) HH2.out.look HH2.out.len).mono ?_
          rintro e w3 ⟨rfl, rfl⟩
          go_wp2_with fail
          go_roundw
          case rel => exact ⟨k + 1, upd m j (m j + 1), v', by omega, by go_num, HQ2.out, HH2.out, HMD2.out, HMB2.out, HB2.out⟩
          case measure => simp [intOf]; omega
        · rw [if_neg hl] at hh1
          rw [decide_eq_false hl]
          have HQ2 := Hid.mk' hqc1
          have HH2 := Hid.mk' hh1
          have HMD2 := Hid.mk' (HMD.out.kept hk1 (by omega))
          have HMB2 := Hid.mk' HMB.out
          have HB2 := Hid.mk' (HBB.out.trans hb1)
          clear hqc1 hh1 hk1 hb1 co ck cm fm
          go_wp2_with fail
          refine (check_any _ w.heap.size (w.heap.size + 1) lim v' (m) HQ2.out l0 (by omega) (fun i hi => (HMD2.out i hi).1) (fun i hi => ⟨(HMB2.out i hi).1, Int.le_trans (HMB2.out i hi).2 (by omega)⟩) HH2.out.look HH2.out.len).mono ?_
          rintro e w3 ⟨rfl, rfl⟩
          go_wp2_with fail
          go_roundw
          case rel => exact ⟨k + 1, m, v', by omega, by go_num, HQ2.out, HH2.out, HMD2.out, HMB2.out, HB2.out⟩
          case measure => simp [intOf]; omega
      · by_cases hz : m j = 0
        · rw [hz] at cm
          go_wp2_with fail
          go_roundw
          case rel => exact ⟨k + 1, m, v, by omega, by go_num, HQ.out, HH.out.mono (by omega), HMD.out, HMB.out, HBB.out⟩
          case measure => simp [intOf]; omega
        · have hzd : decide (m j = 0) = false := by simpa using hz
          go_wp2_with fail
          refine (give_any wr w.heap.size w.heap.size lim v k m j HQ.out HH.out hj (by omega) (by omega) (by omega) (Nat.le_refl _)).mono ?_
          rintro e w1 ⟨rfl, ⟨v', hqc1, hh1⟩, hk1, hb1⟩
          have hmd1 := HMD.out.kept hk1 (by omega)
          obtain ⟨cm1, fm1⟩ := hmd1 j hj
          have HQ2 := Hid.mk' (hqc1.setCell (M := w.heap.size + 1) (o := j) (by omega) (.int .i64 (m j - 1)))
          have HH2 := Hid.mk' (hh1.setCell cm1 (.int .i64 (m j - 1)))
          have HMD2 := Hid.mk' (hmd1.set hj (m j - 1))
          have HMB2 := Hid.mk' (upd_bounds HMB.out (j := j) (v := m j - 1) (by omega) (by omega))
          have HB2 : Hid (Below w.heap.size w (w1.setCell ⟨w.heap.size + 1, j, none⟩ (.int .i64 (m j - 1)))) := (HBB.out.trans hb1).setCell (Nat.le_succ _) _
          clear hqc1 hh1 hk1 hb1 hmd1 co ck cm fm
          go_wp2_with fail
          refine (check_any _ w.heap.size (w.heap.size + 1) lim v' (upd m j (m j - 1)) HQ2.out l0 (by omega) (fun i hi => (HMD2.out i hi).1) (fun i hi => ⟨(HMB2.out i hi).1, Int.le_trans (HMB2.out i hi).2 (by omega)⟩) HH2.out.look HH2.out.len).mono ?_
          rintro e w3 ⟨rfl, rfl⟩
          go_wp2_with fail
          go_roundw
          case rel => exact ⟨k + 1, upd m j (m j - 1), v', by omega, by go_num, HQ2.out, HH2.out, HMD2.out, HMB2.out, HB2.out⟩
          case measure => simp [intOf]; omega
    · have e : k = n := by omega
      subst e
      go_wp2_with fail
      go_ret
      exact ⟨rfl, hb⟩
set_option maxRecDepth 100000 in
theorem give_big (w : World) (a0 : Int) (a : Option Addr) (len cap : Nat) (hbig : 1024 < len) (hl : len ≤ maxLen) :
    Calls Yba.prog 3 #[.int .u8 a0, .slice a len cap] w fun e w' => e = .returned (.bool true) ∧ Below w.heap.size w w' := by
  unfold maxLen at hl
  go_enter Yba.func3, Yba.ntmps3
  go_wp2
  go_ret
  exact ⟨rfl, Below.refl _ _⟩
end Go.Proofs.Ybulkbtai
