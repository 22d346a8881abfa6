/-
  TIDEWATCH: zzs3479acheck, walked: it only reads, and finds the map as the model says.
-/
import Derived.Test.YbulkbtaiGive
namespace Go.Proofs.Ybulkbtai
open Go.RowKit Go.Maps Go.MuLone
set_option linter.unusedVariables false
set_option linter.unusedSimpArgs false
theorem Hid.mk' {p : Prop} (h : p) : Hid p := h
set_option maxRecDepth 100000 in
set_option maxHeartbeats 1000000 in
theorem check_any (w : World) (Q M : Nat) (lim : Int) (v : Value) (m : Nat → Int) (h : Qc w Q lim v) (l0 : 0 ≤ lim) (l1 : lim ≤ 500) (hM : ∀ j, j < 8 → w.cell? ⟨M, j, none⟩ = some (.int .i64 (m j))) (hmb : ∀ j, j < 8 → 0 ≤ m j ∧ m j ≤ 500)
    (look : ∀ j : Nat, j < 8 → (Instr.lookup 31 v (.int .i64 j) true).run Yba.prog w = .ok (.tuple #[.int .i64 (m j), .bool (m j != 0)]) w) (len : ∀ ty, (Builtin.len_ #[31] ty #[v]).run Yba.prog w = .ok (.int .i64 (cntTo m 8)) w) :
    Calls Yba.prog 6 #[.pointer (some ⟨Q, 0, none⟩), .pointer (some ⟨M, 0, none⟩), .int .i64 lim] w fun e w' => e = .returned (.bool true) ∧ w' = w := by
  have c0 := h.c0
  have c3 := h.c3
  have HM : Hid (∀ j, j < 8 → w.cell? ⟨M, j, none⟩ = some (.int .i64 (m j))) := hM
  have HL : Hid (∀ j : Nat, j < 8 → (Instr.lookup 31 v (.int .i64 j) true).run Yba.prog w = .ok (.tuple #[.int .i64 (m j), .bool (m j != 0)]) w) := look
  have HB : Hid (∀ j, j < 8 → 0 ≤ m j ∧ m j ≤ 500) := hmb
  clear hM look hmb
  go_enter Yba.func6, Yba.ntmps6
  go_wp2
  go_loopw [8, 7] (fun i c wr => ∃ k : Nat, k ≤ 8 ∧ i = .int .i64 k ∧ c = .int .i64 (cntTo m k) ∧ wr = w) (fun i _ _ => 8 - (intOf i).toNat)
  case atStart => exact ⟨0, by omega, rfl, rfl, rfl⟩
  case round =>
    obtain ⟨k, hk, rfl, rfl, rfl⟩ := hrel
    by_cases hlt : k < 8
    · have cm := HM.out k hlt
      have hlk := HL.out k hlt
      obtain ⟨b0, b1⟩ := HB.out k hlt
      have hc1 := cntTo_le m k
      have hcn : cntTo m (k + 1) = cntTo m k + (if m k != 0 then 1 else 0) := rfl
      have Hcn := Hid.mk' hcn
      clear hcn
      have hj3 : (0 : Int) ≤ (k : Int) := by omega
      have hj4 : (k : Int) < 8 := by omega
      by_cases hz : m k = 0
      · rw [hz] at cm hlk
        go_wp2
        refine ⟨⟨k + 1, by omega, by go_num, ?_, trivial⟩, by simp [intOf]; omega⟩
        rw [Hcn.out, hz]
        simp
      · have hz1 : (m k != 0) = true := by simpa using hz
        rw [hz1] at hlk
        go_wp2
        refine ⟨⟨k + 1, by omega, by go_num, ?_, trivial⟩, by simp [intOf]; omega⟩
        rw [Hcn.out, hz1]
        simp
    · have e : k = 8 := by omega
      subst e
      go_wp2
      go_ret
      exact ⟨rfl, rfl⟩
end Go.Proofs.Ybulkbtai
