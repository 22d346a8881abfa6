/-
  TIDEWATCH: give, walked.
-/
import Derived.Test.YbulkbtaiTake
namespace Go.Proofs.Ybulkbtai
open Go.RowKit Go.Maps Go.MuLone
set_option linter.unusedVariables false
set_option linter.unusedSimpArgs false
set_option maxRecDepth 100000 in
theorem give_some (w : World) (B Q : Nat) (lim : Int) (b n : Nat) (m : Nat → Int) (j : Nat) (h : Qc w Q lim (.map (some b))) (hm : Mp w b n m) (hj : j < 8) (m0 : 1 ≤ m j) (m1 : m j ≤ 500) (hn : n < 100000) (hB : B ≤ Q) (hb : B ≤ b) :
    Calls Yba.prog 5 #[.pointer (some ⟨Q, 0, none⟩), .int .i64 j] w fun e w' => e = .returned (.tuple #[]) ∧ Qc w' Q lim (.map (some b)) ∧ Mp w' b (n + 1) (upd m j (m j - 1)) ∧ Kept Q w w' ∧ Below B w w' := by
  have hbQ : b ≠ Q := hm.ne h.c0
  have c1 := h.c1
  have f1 := h.f1
  have hM : Mp (w.setCell ⟨Q, 1, none⟩ (.int .i32 1)) b n m := hm.setCell hbQ _
  have c0 : (w.setCell ⟨Q, 1, none⟩ (.int .i32 1)).cell? ⟨Q, 0, none⟩ = some (.int .i64 lim) := (World.cell?_setCell_other _ _ _ _ (by simp)).trans h.c0
  have c3 : (w.setCell ⟨Q, 1, none⟩ (.int .i32 1)).cell? ⟨Q, 3, none⟩ = some (.map (some b)) := (World.cell?_setCell_other _ _ _ _ (by simp)).trans h.c3
  have d1 : (w.setCell ⟨Q, 1, none⟩ (.int .i32 1)).cell? ⟨Q, 1, none⟩ = some (.int .i32 1) := World.cell?_setCell_same _ _ _ h.c1
  have g1 : (w.setCell ⟨Q, 1, none⟩ (.int .i32 1)).frozen? ⟨Q, 1, none⟩ = false := (World.frozen?_setCell _ _ _ _).trans h.f1
  have g3 : (w.setCell ⟨Q, 1, none⟩ (.int .i32 1)).frozen? ⟨Q, 3, none⟩ = false := (World.frozen?_setCell _ _ _ _).trans h.f3
  have hk : Kept Q w (w.setCell ⟨Q, 1, none⟩ (.int .i32 1)) := Kept.setCell _ _ _ _
  have hbl : Below B w (w.setCell ⟨Q, 1, none⟩ (.int .i32 1)) := (Below.refl _ _).setCell hB _
  have hbz : B ≤ (w.setCell ⟨Q, 1, none⟩ (.int .i32 1)).heap.size := Nat.le_trans hb (Nat.le_of_lt (by obtain ⟨D, ⟨es, clock, hmm, _⟩, _⟩ := hM; exact (Array.getElem?_eq_some_iff.1 hmm).1))
  have hlk := hM.look hj
  by_cases h1 : m j = 1
  · rw [h1] at hlk ⊢
    obtain ⟨V1, V2, hup, ht1, hlk2, hdel, hM3, ht2⟩ := hM.strike hj (by omega) hn
    have hcell : ∀ o v, (w.setCell ⟨Q, 1, none⟩ (.int .i32 1)).cell? ⟨Q, o, none⟩ = some v → V1.cell? ⟨Q, o, none⟩ = some v ∧ V2.cell? ⟨Q, o, none⟩ = some v ∧ V2.frozen? ⟨Q, o, none⟩ = (w.setCell ⟨Q, 1, none⟩ (.int .i32 1)).frozen? ⟨Q, o, none⟩ := fun o v hv => by
      obtain ⟨x1, x2⟩ := Kept.turned (Q + 1) ht1 ⟨Q, o, none⟩ v (by simp) hv
      obtain ⟨x3, x4⟩ := Kept.turned (Q + 1) ht2 ⟨Q, o, none⟩ v (by simp) x1
      exact ⟨x1, x3, x4.trans x2⟩
    obtain ⟨_, e0, _⟩ := hcell 0 _ c0
    obtain ⟨_, e1, ef1⟩ := hcell 1 _ d1
    obtain ⟨k3, e3, ef3⟩ := hcell 3 _ c3
    have hkt := (hk.trans (Kept.turned Q ht1)).trans (Kept.turned Q ht2)
    have hb1 := below_turned hbl ht1 hb hbz
    have hb2 := below_turned hb1 ht2 hb (Nat.le_trans hbz ht1.grown.size)
    clear hcell
    go_enter_defers Yba.func5, Yba.ntmps5
    go_wp2_with (go_at_call 7; refine (lock_free Yba.muLib ⟨Q, 1, none⟩ _ c1 f1).mono ?_; rintro e w' ⟨rfl, rfl⟩)
    refine leaves_cons (f := 8) (args := #[.pointer (some ⟨Q, 1, none⟩)]) (by simp) (by simp [go_sem]) ?_
    refine (unlock_deferred Yba.muLib ⟨Q, 1, none⟩ .returning _ e1 (ef1.trans g1)).mono ?_
    rintro e u' w'' ⟨rfl, rfl, rfl⟩
    exact ⟨_, results_none rfl _ _ _, rfl, Qc.unlock e0 e1 e3 (ef1.trans g1) (ef3.trans g3), hM3.setCell hbQ _, hkt.trans (Kept.setCell _ _ _ _), hb2.setCell hB _⟩
  · obtain ⟨V1, hup, hM3, ht1⟩ := hM.store hj (v := m j - 1) (by omega) (by omega) (by omega) hn
    have hlk2 := hM3.look hj
    rw [upd_same] at hlk2
    have hne : decide (m j - 1 = 0) = false := by simp; omega
    have hcell : ∀ o v, (w.setCell ⟨Q, 1, none⟩ (.int .i32 1)).cell? ⟨Q, o, none⟩ = some v → V1.cell? ⟨Q, o, none⟩ = some v ∧ V1.frozen? ⟨Q, o, none⟩ = (w.setCell ⟨Q, 1, none⟩ (.int .i32 1)).frozen? ⟨Q, o, none⟩ := fun o v hv => Kept.turned (Q + 1) ht1 ⟨Q, o, none⟩ v (by simp) hv
    obtain ⟨e0, _⟩ := hcell 0 _ c0
    obtain ⟨e1, ef1⟩ := hcell 1 _ d1
    obtain ⟨e3, ef3⟩ := hcell 3 _ c3
    have hkt := hk.trans (Kept.turned Q ht1)
    have hb2 := below_turned hbl ht1 hb hbz
    clear hcell
    go_enter_defers Yba.func5, Yba.ntmps5
    go_wp2_with (go_at_call 7; refine (lock_free Yba.muLib ⟨Q, 1, none⟩ _ c1 f1).mono ?_; rintro e w' ⟨rfl, rfl⟩)
    refine leaves_cons (f := 8) (args := #[.pointer (some ⟨Q, 1, none⟩)]) (by simp) (by simp [go_sem]) ?_
    refine (unlock_deferred Yba.muLib ⟨Q, 1, none⟩ .returning _ e1 (ef1.trans g1)).mono ?_
    rintro e u' w'' ⟨rfl, rfl, rfl⟩
    exact ⟨_, results_none rfl _ _ _, rfl, Qc.unlock e0 e1 e3 (ef1.trans g1) (ef3.trans g3), hM3.setCell hbQ _, hkt.trans (Kept.setCell _ _ _ _), hb2.setCell hB _⟩
end Go.Proofs.Ybulkbtai
