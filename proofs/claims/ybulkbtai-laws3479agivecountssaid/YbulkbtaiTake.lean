/-
  TIDEWATCH: take, walked.
-/
import Derived.Test.YbulkbtaiQuota
namespace Go.Proofs.Ybulkbtai
open Go.RowKit Go.Maps Go.MuLone
set_option linter.unusedVariables false
set_option linter.unusedSimpArgs false
/-- The lock is given back. -/
theorem Qc.unlock {V : World} {Q : Nat} {lim : Int} {v : Value} (e0 : V.cell? ⟨Q, 0, none⟩ = some (.int .i64 lim)) (e1 : V.cell? ⟨Q, 1, none⟩ = some (.int .i32 1)) (e3 : V.cell? ⟨Q, 3, none⟩ = some v) (f1 : V.frozen? ⟨Q, 1, none⟩ = false) (f3 : V.frozen? ⟨Q, 3, none⟩ = false) : Qc (V.setCell ⟨Q, 1, none⟩ (.int .i32 0)) Q lim v :=
  ⟨(World.cell?_setCell_other _ _ _ _ (by simp)).trans e0, World.cell?_setCell_same _ _ _ e1, (World.cell?_setCell_other _ _ _ _ (by simp)).trans e3, (World.frozen?_setCell _ _ _ _).trans f1, (World.frozen?_setCell _ _ _ _).trans f3⟩
set_option maxRecDepth 100000 in
theorem take_some (w : World) (B Q : Nat) (lim : Int) (b n : Nat) (m : Nat → Int) (j : Nat) (h : Qc w Q lim (.map (some b))) (hm : Mp w b n m) (hj : j < 8) (m0 : 0 ≤ m j) (m1 : m j ≤ 500) (l0 : 0 ≤ lim) (l1 : lim ≤ 500) (hn : n < 100000) (hB : B ≤ Q) (hb : B ≤ b) :
    Calls Yba.prog 4 #[.pointer (some ⟨Q, 0, none⟩), .int .i64 j] w fun e w' => e = .returned (.bool (decide (m j < lim))) ∧ Qc w' Q lim (.map (some b)) ∧ Mp w' b (n + 1) (if m j < lim then upd m j (m j + 1) else m) ∧ Kept Q w w' ∧ Below B w w' := by
  have hbQ : b ≠ Q := hm.ne h.c0
  have c1 := h.c1
  have f1 := h.f1
  have hM : Mp (w.setCell ⟨Q, 1, none⟩ (.int .i32 1)) b n m := hm.setCell hbQ _
  have c0 : (w.setCell ⟨Q, 1, none⟩ (.int .i32 1)).cell? ⟨Q, 0, none⟩ = some (.int .i64 lim) := (World.cell?_setCell_other _ _ _ _ (by simp)).trans h.c0
  have c3 : (w.setCell ⟨Q, 1, none⟩ (.int .i32 1)).cell? ⟨Q, 3, none⟩ = some (.map (some b)) := (World.cell?_setCell_other _ _ _ _ (by simp)).trans h.c3
  have d1 : (w.setCell ⟨Q, 1, none⟩ (.int .i32 1)).cell? ⟨Q, 1, none⟩ = some (.int .i32 1) := World.cell?_setCell_same _ _ _ h.c1
  have f1' : (w.setCell ⟨Q, 1, none⟩ (.int .i32 1)).frozen? ⟨Q, 1, none⟩ = false := (World.frozen?_setCell _ _ _ _).trans h.f1
  have f3 : (w.setCell ⟨Q, 1, none⟩ (.int .i32 1)).frozen? ⟨Q, 3, none⟩ = false := (World.frozen?_setCell _ _ _ _).trans h.f3
  have hk : Kept Q w (w.setCell ⟨Q, 1, none⟩ (.int .i32 1)) := Kept.setCell _ _ _ _
  have hbl : Below B w (w.setCell ⟨Q, 1, none⟩ (.int .i32 1)) := (Below.refl _ _).setCell hB _
  have hnil : ∀ w, (binOp .eql 31 (.map (some b)) (.map none)).run Yba.prog w = .ok (.bool false) w := fun w => run_eql_map_nil w 31 3 3 (some b) Yba.underlying31
  go_enter_defers Yba.func4, Yba.ntmps4
  go_wp2_with (go_at_call 7; refine (lock_free Yba.muLib ⟨Q, 1, none⟩ _ c1 f1).mono ?_; rintro e w' ⟨rfl, rfl⟩)
  clear h hm c1 f1
  generalize w.setCell ⟨Q, 1, none⟩ (.int .i32 1) = W at *
  have hlk : ∀ k, (Instr.lookup 31 (.map (some b)) (.int .i64 j) false).run Yba.prog (W.drewN k) = .ok (.int .i64 (m j)) (W.drewN k) := fun k => (hM.drewN k).look hj
  have hlk1 := hM.look hj
  go_quiet (fail)
  clear hlk hlk1
  have hM2 : Mp (W.drewN nq) b n m := hM
  have c0' : (W.drewN nq).cell? ⟨Q, 0, none⟩ = some (.int .i64 lim) := c0
  have c3' : (W.drewN nq).cell? ⟨Q, 3, none⟩ = some (.map (some b)) := c3
  have d1' : (W.drewN nq).cell? ⟨Q, 1, none⟩ = some (.int .i32 1) := d1
  have g1 : (W.drewN nq).frozen? ⟨Q, 1, none⟩ = false := f1'
  have g3 : (W.drewN nq).frozen? ⟨Q, 3, none⟩ = false := f3
  have hk' : Kept Q w (W.drewN nq) := hk.trans (Kept.drewN _ _ _)
  have hbl' : Below B w (W.drewN nq) := below_dN hbl _
  clear hM c0 c3 d1 f1' f3 hk hbl
  generalize W.drewN nq = V at *
  by_cases hlt : m j < lim
  · have hle : decide (lim ≤ m j) = false := by simp; omega
    have hlk := hM2.look hj
    obtain ⟨V2, hup, hM3, ht⟩ := hM2.store hj (v := m j + 1) (by omega) (by omega) (by omega) hn
    have hkt := Kept.turned Q ht
    have hb2 := below_turned hbl' ht hb (Nat.le_trans hb (Nat.le_of_lt (by obtain ⟨D, ⟨es, clock, hmm, _⟩, _⟩ := hM2; exact (Array.getElem?_eq_some_iff.1 hmm).1)))
    have hcell : ∀ o v, V.cell? ⟨Q, o, none⟩ = some v → V2.cell? ⟨Q, o, none⟩ = some v ∧ V2.frozen? ⟨Q, o, none⟩ = V.frozen? ⟨Q, o, none⟩ := fun o v hv => Kept.turned (Q + 1) ht ⟨Q, o, none⟩ v (by simp) hv
    obtain ⟨e0, _⟩ := hcell 0 _ c0'
    obtain ⟨e1, ef1⟩ := hcell 1 _ d1'
    obtain ⟨e3, ef3⟩ := hcell 3 _ c3'
    clear hcell
    rw [hle]
    go_wp2
    refine leaves_cons (f := 8) (args := #[.pointer (some ⟨Q, 1, none⟩)]) (by simp) (by simp [go_sem]) ?_
    refine (unlock_deferred Yba.muLib ⟨Q, 1, none⟩ .returning _ e1 (ef1.trans g1)).mono ?_
    rintro e u' w'' ⟨rfl, rfl, rfl⟩
    exact ⟨_, results_tmp rfl _ _ _, rfl, Qc.unlock e0 e1 e3 (ef1.trans g1) (ef3.trans g3), hM3.setCell hbQ _, (hk'.trans hkt).trans (Kept.setCell _ _ _ _), hb2.setCell hB _⟩
  · have hle : decide (lim ≤ m j) = true := by simp; omega
    rw [hle]
    go_wp2
    refine leaves_cons (f := 8) (args := #[.pointer (some ⟨Q, 1, none⟩)]) (by simp) (by simp [go_sem]) ?_
    refine (unlock_deferred Yba.muLib ⟨Q, 1, none⟩ .returning _ d1' g1).mono ?_
    rintro e u' w'' ⟨rfl, rfl, rfl⟩
    exact ⟨_, results_tmp rfl _ _ _, by first | rfl | rw [decide_eq_false (Int.not_lt.2 hlt)], Qc.unlock c0' d1' c3' g1 g3, by have hx := (hM2.setCell (a := ⟨Q, 1, none⟩) hbQ (.int .i32 0)).mono (Nat.le_succ n); first | exact hx | (rw [if_neg (Int.not_lt.2 hlt)]; exact hx), hk'.trans (Kept.setCell _ _ _ _), hbl'.setCell hB _⟩
set_option maxRecDepth 100000 in
theorem take_nil (w : World) (B Q : Nat) (lim : Int) (m : Nat → Int) (j : Nat) (h : Qc w Q lim (.map none)) (hz : ∀ j, j < 8 → m j = 0) (hj : j < 8) (l0 : 0 ≤ lim) (l1 : lim ≤ 500) (hB : B ≤ Q) :
    Calls Yba.prog 4 #[.pointer (some ⟨Q, 0, none⟩), .int .i64 j] w fun e w' => e = .returned (.bool (decide (0 < lim))) ∧ (if 0 < lim then ∃ b, Qc w' Q lim (.map (some b)) ∧ B ≤ b ∧ Mp w' b 1 (upd m j 1) else Qc w' Q lim (.map none)) ∧ Kept Q w w' ∧ Below B w w' := by
  have c1 := h.c1
  have f1 := h.f1
  have c0 : (w.setCell ⟨Q, 1, none⟩ (.int .i32 1)).cell? ⟨Q, 0, none⟩ = some (.int .i64 lim) := (World.cell?_setCell_other _ _ _ _ (by simp)).trans h.c0
  have c3 : (w.setCell ⟨Q, 1, none⟩ (.int .i32 1)).cell? ⟨Q, 3, none⟩ = some (.map none) := (World.cell?_setCell_other _ _ _ _ (by simp)).trans h.c3
  have d1 : (w.setCell ⟨Q, 1, none⟩ (.int .i32 1)).cell? ⟨Q, 1, none⟩ = some (.int .i32 1) := World.cell?_setCell_same _ _ _ h.c1
  have f1' : (w.setCell ⟨Q, 1, none⟩ (.int .i32 1)).frozen? ⟨Q, 1, none⟩ = false := (World.frozen?_setCell _ _ _ _).trans h.f1
  have f3 : (w.setCell ⟨Q, 1, none⟩ (.int .i32 1)).frozen? ⟨Q, 3, none⟩ = false := (World.frozen?_setCell _ _ _ _).trans h.f3
  have hk : Kept Q w (w.setCell ⟨Q, 1, none⟩ (.int .i32 1)) := Kept.setCell _ _ _ _
  have hbl : Below B w (w.setCell ⟨Q, 1, none⟩ (.int .i32 1)) := (Below.refl _ _).setCell hB _
  have hnil : ∀ w, (binOp .eql 31 (.map none) (.map none)).run Yba.prog w = .ok (.bool true) w := fun w => run_eql_map_nil w 31 3 3 none Yba.underlying31
  have hlk : ∀ w, (Instr.lookup 31 (.map none) (.int .i64 j) false).run Yba.prog w = .ok (.int .i64 0) w := fun w => look_nil (w := w) false law3 Yba.underlying31 (zero3 _) (keyOf_key hj)
  have hmm := @run_makeMap Yba.prog
  go_enter_defers Yba.func4, Yba.ntmps4
  go_wp2_with (go_at_call 7; refine (lock_free Yba.muLib ⟨Q, 1, none⟩ _ c1 f1).mono ?_; rintro e w' ⟨rfl, rfl⟩)
  clear h c1 f1
  generalize w.setCell ⟨Q, 1, none⟩ (.int .i32 1) = W at *
  go_quiet (fail)
  have c0' : (W.drewN nq).cell? ⟨Q, 0, none⟩ = some (.int .i64 lim) := c0
  have c3' : (W.drewN nq).cell? ⟨Q, 3, none⟩ = some (.map none) := c3
  have d1' : (W.drewN nq).cell? ⟨Q, 1, none⟩ = some (.int .i32 1) := d1
  have g1 : (W.drewN nq).frozen? ⟨Q, 1, none⟩ = false := f1'
  have g3 : (W.drewN nq).frozen? ⟨Q, 3, none⟩ = false := f3
  have hk' : Kept Q w (W.drewN nq) := hk.trans (Kept.drewN _ _ _)
  have hbl' : Below B w (W.drewN nq) := below_dN hbl _
  clear c0 c3 d1 f1' f3 hk hbl
  generalize W.drewN nq = V at *
  have hQV : Q < V.heap.size := by
    simp only [World.cell?] at c0'
    cases hg : V.heap[Q]? with
    | none => simp [hg] at c0'
    | some o => exact (Array.getElem?_eq_some_iff.1 hg).1
  by_cases hlt : 0 < lim
  · have hle : decide (lim ≤ 0) = false := by simp; omega
    have hsz : (V.setCell ⟨Q, 3, none⟩ (.map (some V.heap.size))).heap.size = V.heap.size := by simp [World.setCell]
    have hM : Mp ((V.setCell ⟨Q, 3, none⟩ (.map (some V.heap.size))).alloc (.map #[] 0)) V.heap.size 0 m := by have := Mp.made (V.setCell ⟨Q, 3, none⟩ (.map (some V.heap.size))) hz; rw [hsz] at this; exact this
    have hQS : Q < (V.setCell ⟨Q, 3, none⟩ (.map (some V.heap.size))).heap.size := by rw [hsz]; exact hQV
    have k0 : ((V.setCell ⟨Q, 3, none⟩ (.map (some V.heap.size))).alloc (.map #[] 0)).cell? ⟨Q, 0, none⟩ = some (.int .i64 lim) := (World.cell?_alloc_past _ _ _ hQS).trans ((World.cell?_setCell_other _ _ _ _ (by simp)).trans c0')
    have k1 : ((V.setCell ⟨Q, 3, none⟩ (.map (some V.heap.size))).alloc (.map #[] 0)).cell? ⟨Q, 1, none⟩ = some (.int .i32 1) := (World.cell?_alloc_past _ _ _ hQS).trans ((World.cell?_setCell_other _ _ _ _ (by simp)).trans d1')
    have k3 : ((V.setCell ⟨Q, 3, none⟩ (.map (some V.heap.size))).alloc (.map #[] 0)).cell? ⟨Q, 3, none⟩ = some (.map (some V.heap.size)) := (World.cell?_alloc_past _ _ _ hQS).trans (World.cell?_setCell_same _ _ _ c3')
    have kf1 : ((V.setCell ⟨Q, 3, none⟩ (.map (some V.heap.size))).alloc (.map #[] 0)).frozen? ⟨Q, 1, none⟩ = false := (World.frozen?_alloc_past _ _ _ hQS).trans ((World.frozen?_setCell _ _ _ _).trans g1)
    have kf3 : ((V.setCell ⟨Q, 3, none⟩ (.map (some V.heap.size))).alloc (.map #[] 0)).frozen? ⟨Q, 3, none⟩ = false := (World.frozen?_alloc_past _ _ _ hQS).trans ((World.frozen?_setCell _ _ _ _).trans g3)
    have hBV : B ≤ V.heap.size := by omega
    have hb1 : Below B w ((V.setCell ⟨Q, 3, none⟩ (.map (some V.heap.size))).alloc (.map #[] 0)) := (hbl'.setCell hB _).alloc (by rw [hsz]; exact hBV) _
    have hk1 : Kept Q w ((V.setCell ⟨Q, 3, none⟩ (.map (some V.heap.size))).alloc (.map #[] 0)) := (hk'.trans (Kept.setCell _ _ _ _)).trans (Kept.alloc _ _ _)
    have hBA : B ≤ ((V.setCell ⟨Q, 3, none⟩ (.map (some V.heap.size))).alloc (.map #[] 0)).heap.size := by rw [World.size_alloc, hsz]; omega
    have hlk2 := hM.look hj
    rw [hz j hj] at hlk2
    obtain ⟨V2, hup, hM3, ht⟩ := hM.store hj (v := 1) (by omega) (by omega) (by omega) (by omega)
    have hkt := hk1.trans (Kept.turned Q ht)
    have hb2 := below_turned hb1 ht hBV hBA
    have hcell : ∀ o v, ((V.setCell ⟨Q, 3, none⟩ (.map (some V.heap.size))).alloc (.map #[] 0)).cell? ⟨Q, o, none⟩ = some v → V2.cell? ⟨Q, o, none⟩ = some v ∧ V2.frozen? ⟨Q, o, none⟩ = ((V.setCell ⟨Q, 3, none⟩ (.map (some V.heap.size))).alloc (.map #[] 0)).frozen? ⟨Q, o, none⟩ := fun o v hv => Kept.turned (Q + 1) ht ⟨Q, o, none⟩ v (by simp) hv
    obtain ⟨e0, _⟩ := hcell 0 _ k0
    obtain ⟨e1, ef1⟩ := hcell 1 _ k1
    obtain ⟨e3, ef3⟩ := hcell 3 _ k3
    clear hcell
    rw [hle]
    go_wp2
    refine leaves_cons (f := 8) (args := #[.pointer (some ⟨Q, 1, none⟩)]) (by simp) (by simp [go_sem]) ?_
    refine (unlock_deferred Yba.muLib ⟨Q, 1, none⟩ .returning _ e1 (ef1.trans kf1)).mono ?_
    rintro e u' w'' ⟨rfl, rfl, rfl⟩
    exact ⟨_, results_tmp rfl _ _ _, rfl, ⟨_, Qc.unlock e0 e1 e3 (ef1.trans kf1) (ef3.trans kf3), hBV, hM3.setCell (by simp; omega) _⟩, hkt.trans (Kept.setCell _ _ _ _), hb2.setCell hB _⟩
  · have hle : decide (lim ≤ 0) = true := by simp; omega
    rw [hle]
    go_wp2
    refine leaves_cons (f := 8) (args := #[.pointer (some ⟨Q, 1, none⟩)]) (by simp) (by simp [go_sem]) ?_
    refine (unlock_deferred Yba.muLib ⟨Q, 1, none⟩ .returning _ d1' g1).mono ?_
    rintro e u' w'' ⟨rfl, rfl, rfl⟩
    exact ⟨_, results_tmp rfl _ _ _, by first | rfl | rw [decide_eq_false (by omega)], by have hx := Qc.unlock c0' d1' c3' g1 g3; first | exact hx | (rw [if_neg (by omega)]; exact hx), hk'.trans (Kept.setCell _ _ _ _), hbl'.setCell hB _⟩
end Go.Proofs.Ybulkbtai
