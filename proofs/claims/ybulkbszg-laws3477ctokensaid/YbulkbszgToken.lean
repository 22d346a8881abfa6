/-
  SIGNALPOST: LawS3477CToken, walked.
-/
import Derived.Test.YbulkbszgStream
import Derived.WalkKit
import Derived.WalkSpells
namespace Go.Proofs.Ybulkbszg
open Go.Conc Go.RowKit
set_option linter.unusedVariables false
set_option linter.unusedSimpArgs false
theorem run_equalIn_chan (w : World) (d c : Nat) : (Op.equalIn (d + 1) 77 (.chan (some c)) (.chan (some c))).run Yba.prog w = .ok true w := by
  simp [Op.equalIn, run_underlying Yba.underlying77]
theorem run_neq_chan (w : World) (c : Nat) : (binOp .neq 77 (.chan (some c)) (.chan (some c))).run Yba.prog w = .ok (.bool false) w := by
  simp only [binOp]
  simp [Op.equal, Op.maxDepth, run_equalIn_chan w 9999 c]
theorem run_neq_sl (w : World) : (binOp .neq 74 (.slice none 0 0) (.slice none 0 0)).run Yba.prog w = .ok (.bool false) w :=
  run_neq_slice_nil_any w 74 _ none 0 0 0 0 Yba.underlying74
/-- What the walk asks of the stream's world. -/
theorem St.cells {w : World} {B S c d : Nat} {t : Bool} (h : St w B S c d t) : w.cell? ⟨S, 2, none⟩ = some (.slice none 0 0) ∧ w.cell? ⟨S, 5, none⟩ = some (.slice none 0 0) ∧ w.cell? ⟨S, 6, none⟩ = some (.int .u64 0) ∧ w.cell? ⟨S, 7, none⟩ = some (.bool false) ∧ w.cell? ⟨S, 8, none⟩ = some .nilIface ∧ w.cell? ⟨S, 9, none⟩ = some (.chan (some c)) ∧ w.cell? ⟨S, 10, none⟩ = some (.chan (some d)) :=
  ⟨h.cell 2, h.cell 5, h.cell 6, h.cell 7, h.cell 8, h.cell 9, h.cell 10⟩
theorem St.len1 {w : World} {B S c d : Nat} (h : St w B S c d true) (ty : TypeId) : (Builtin.len_ #[77] ty #[.chan (some c)]).run Yba.prog w = .ok (.int .i64 1) w := by
  obtain ⟨s, r, hw⟩ := h.wake
  exact run_len_chan 77 ty Yba.underlying77 hw
theorem St.len0 {w : World} {B S c d : Nat} (h : St w B S c d false) (ty : TypeId) : (Builtin.len_ #[77] ty #[.chan (some c)]).run Yba.prog w = .ok (.int .i64 0) w := by
  obtain ⟨s, r, hw⟩ := h.wake
  exact run_len_chan 77 ty Yba.underlying77 hw
theorem St.cap {w : World} {B S c d : Nat} {t : Bool} (h : St w B S c d t) (ty : TypeId) : (Builtin.cap_ #[77] ty #[.chan (some c)]).run Yba.prog w = .ok (.int .i64 1) w := by
  obtain ⟨s, r, hw⟩ := h.wake
  exact run_cap_chan 77 ty Yba.underlying77 hw
set_option maxRecDepth 100000 in
set_option maxHeartbeats 4000000 in
theorem token_some (w : World) (ain : Option Addr) (n cap : Nat) (f : Nat → Bool) (hbig : n ≤ 4096)
    (hc : ∀ i, i < n → ∃ b off, ain = some ⟨b, off, none⟩ ∧ b < w.heap.size ∧ w.cell? ⟨b, off + i, none⟩ = some (.bool (f i))) :
    Calls Yba.prog 4 #[.slice ain n cap] w fun e w' => e = .returned (.bool true) ∧ Below w.heap.size w w' := by
  have hn3 : decide ((4096 : Int) < (n : Int)) = false := by simp; omega
  have hn1 : (n : Int) ≤ 4096 := by omega
  go_enter Yba.func4, Yba.ntmps4
  go_wp2_with (go_at_call 8; refine (new_any _).mono ?_; rintro e w' ⟨S, c, d, rfl, hst, hbl⟩; obtain ⟨c2, c5, c6, c7, c8, c9, c10⟩ := hst.cells)
  have HC : Hid (∀ i, i < n → ∃ b off, ain = some ⟨b, off, none⟩ ∧ b < w.heap.size ∧ w.cell? ⟨b, off + i, none⟩ = some (.bool (f i))) := hc
  clear c2 c5 c6 c7 c8 c9 c10 hc
  go_loopw [24, 6] (fun i tk wr => ∃ (k : Nat) (t : Bool), k ≤ n ∧ i = .int .i64 k ∧ tk = .bool t ∧ St wr w.heap.size S c d t ∧ Below w.heap.size w wr) (fun i _ _ => n - (intOf i).toNat)
  case atStart => exact ⟨0, false, by omega, rfl, rfl, hst, hbl⟩
  case round =>
    obtain ⟨k, t, hk, rfl, rfl, hs, hb⟩ := hrel
    clear hst hbl
    by_cases hlt : k < n
    · obtain ⟨b, off, rfl, hbz, hcell⟩ := HC.out k hlt
      have ck : wr.cell? ⟨b, off + k, none⟩ = some (.bool (f k)) := (hb.cell (p := ⟨b, off + k, none⟩) hbz).trans hcell
      have hj3 : (0 : Int) ≤ (k : Int) := by omega
      have hj4 : (k : Int) < (n : Int) := by omega
      have HS : Hid (St wr w.heap.size S c d t) := hs
      have HB : Hid (Below w.heap.size w wr) := hb
      obtain ⟨c2, c5, c6, c7, c8, c9, c10⟩ := hs.cells
      have hcp := hs.cap
      have hq1 := fun w => run_neq_chan w c
      have hq2 := fun w => run_neq_chan w d
      have hq3 := run_neq_sl
      cases hf : f k
      · rw [hf] at ck
        cases t
        · have hln := hs.len0
          clear hs hb hcell
          go_wp2_with fail
          go_roundw
          case rel => exact ⟨k + 1, false, by omega, by go_num, rfl, HS.out, HB.out⟩
          case measure => simp [intOf]; omega
        · obtain ⟨sn, rn, hw⟩ := hs.wake
          clear hs hcell c2 c5 c6 c7 c8 c10 hcp
          iterate 50 go_step
          refine wp_region_recv (z := .agg #[]) c (.pointer (some ⟨S, 0, none⟩)) (.pointer (some ⟨S, 0, none⟩)) (.pointer (some ⟨S, 9, none⟩)) (.chan (some c)) rfl rfl rfl rfl rfl ?r0 ?r1 ?r2 ?r3 ?r4 hw Nat.one_pos ?h
          case r0 => go_simp
          case r1 => go_simp
          case r2 => go_simp
          case r3 => go_simp
          case r4 => simp [go_sem, execOp, rcase, Act.eval]
          case h =>
            have hst := HS.out.set false sn (rn + 1)
            have hbw : Below w.heap.size wr (wr.setChan c 1 (tokens false) false sn (rn + 1) false) := below_setChan (Below.refl _ _) HS.out.hc _ _ _ _ _ _
            show Exit.then _ _ _ _ (wr.setChan c 1 (tokens false) false sn (rn + 1) false)
            have HBW := Hid.mk' (hb.trans hbw)
            clear hw c9 ck HS HB hb hbw
            generalize wr.setChan c 1 (tokens false) false sn (rn + 1) false = w2 at *
            obtain ⟨d2, d5, d6, d7, d8, d9, d10⟩ := hst.cells
            have hcp := hst.cap
            have hln := hst.len0
            have HST := Hid.mk' hst
            clear hst
            go_wp2_with fail
            go_roundw
            case rel => exact ⟨k + 1, false, by omega, by go_num, rfl, HST.out, HBW.out⟩
            case measure => simp [intOf]; omega
      · rw [hf] at ck
        clear hs hb hcell c2 c5 c6 c7 c8 c9 c10 hcp
        go_wp2_with (go_at_call 9; refine (signal_any _ _ _ _ _ _ HS.out).mono ?_; rintro e w' ⟨rfl, hs, hb⟩; obtain ⟨c2, c5, c6, c7, c8, c9, c10⟩ := hs.cells; have hcp := hs.cap; have hln := hs.len1; have HS' := Hid.mk' hs; have HB' := Hid.mk' hb; clear hs hb)
        go_roundw
        case rel => exact ⟨k + 1, true, by omega, by go_num, rfl, HS'.out, HB.out.trans HB'.out⟩
        case measure => simp [intOf]; omega
    · have e : k = n := by omega
      subst e
      go_wp2_with fail
      go_ret
      exact ⟨rfl, hb⟩
set_option maxRecDepth 100000 in
theorem token_big (w : World) (a : Option Addr) (len cap : Nat) (hbig : 4096 < len) (hl : len ≤ maxLen) :
    Calls Yba.prog 4 #[.slice a len cap] w fun e w' => e = .returned (.bool true) ∧ Below w.heap.size w w' := by
  unfold maxLen at hl
  go_enter Yba.func4, Yba.ntmps4
  go_wp2
  go_ret
  exact ⟨rfl, Below.refl _ _⟩
end Go.Proofs.Ybulkbszg
