/-
  RINGHOP: (*Node).departed, where the node knows no successor.
-/
import Derived.Test.YbulkbsysForget
import Derived.Test.YbulkbsysSetp
import Derived.Test.YbulkbsysLocks
import Derived.BigRegion
import Derived.Deep.RegionHeld3
namespace Go.Proofs.Ybulkbsys
open Go.RowKit Go.MuLone
attribute [local go_sem ↓] ld27 ld25 ld51 st27 st51 al27 al51 bx27 bx51 bx49 bd25 bd27 bd51 bd49 eq27 ne27 eq25 eg27 eg25 pc_addr dpc_pred dpc_rec
attribute [local go_sem] run_ld27 run_ld25 run_ld51 ldOut_some stOut_true run_st27 run_st51 run_al27 run_al51 run_bxRow run_bd25 run_bd27 run_bd51 run_bd51b run_eg27e run_eg27n run_eg25e run_eq27 run_ne27 run_eq25 ad_beq ad_bne ad_fold
attribute [local go_sem] row?_drew loose_drew row?_alloc_past loose_alloc_past row?_alloc_at loose_alloc_at size_setRow loose_setRow loose_setCell row?_setRow_same row?_setRow cell?_setRow frozen?_setRow row?_setCell setRow_drew setRow_alloc_past setRow_alloc_at
attribute [local go_sem] size_pc size_idc size_z27 size_z51 size_dpc single_pc single_z27 single_dpc dpc_node dpc_succ dpc_all pc_id pc_all pc_pop
attribute [local go_sem] row?_drewN loose_drewN alloc_drewN setCell_drewN setRow_drewN
attribute [local go_sem] cell?_alloc_ite newCell_cells frozen?_alloc_ite' row?_alloc_ite newRow?_cells loose_alloc_ite setCell_alloc_ite setNew_cells setRow_alloc_ite layNew_cells
/-- The node behind 'departed' of nd, the lock free again. -/
def NS.gone (q : NS) (nd : Fin 8) : NS := { q.forget nd 160 with mu := 0 }

set_option maxRecDepth 100000 in
set_option maxHeartbeats 1000000 in
/-- The predecessor is another. -/
theorem departed_other (w : World) (N : Nat) (q : NS) (p nd su : Fin 8) (pb : Nat) (dv : Option Addr) (drec : Bool) (h : Nd w N q) (hmu : q.mu = 0) (hpd : q.pd = .pointer (some ⟨pb, 0, none⟩)) (hpr : row? w pb 0 21 = some (pc p)) (hpb : pb ≠ N) (hsc : q.sc = .slice none 0 0) (hne : (p == nd) = false) :
    Calls Yba.prog 8 #[.pointer (some ⟨N, 0, none⟩), .agg (dpc nd (.pointer dv) su drec)] w fun e w' => e = .returned (.tuple #[]) ∧ Turn N w w' ∧ Nd w' N (q.gone nd) := by
  have hN := h.lt
  have hplt := row?_lt hpr
  have H1 : Hid (Nd ((w.setCell ⟨N, 27, none⟩ (.int .i32 1)).alloc (.cells (dpc nd (.pointer dv) su drec) 51)) N { q with mu := 1 }) := (h.setMu 1).alloc _
  have HT : Hid (Turn N w ((w.setCell ⟨N, 27, none⟩ (.int .i32 1)).alloc (.cells (dpc nd (.pointer dv) su drec) 51))) := ((Turn.refl _ _).setCell _ _).alloc _
  have cmu : w.cell? ⟨N, 27, none⟩ = some (.int .i32 0) := by rw [← hmu]; exact h.mu
  have cpd : w.cell? ⟨N, 3398, none⟩ = some (.pointer (some ⟨pb, 0, none⟩)) := by rw [← hpd]; exact h.pd
  have csc : w.cell? ⟨N, 35, none⟩ = some (.slice none 0 0) := by rw [← hsc]; exact h.sc
  have fr := h.frozen
  go_enter_defers Yba.func8, Yba.ntmps8
  go_wp2_with (go_at_call 13; refine (lock_free Yba.muLib ⟨N, 27, none⟩ _ ?h1 ?h2).mono ?_; rotate_left 2; rintro e w' ⟨rfl, rfl⟩)
  case h1 => rw [World.cell?_alloc_past _ _ _ hN]; exact cmu
  case h2 => rw [World.frozen?_alloc_past _ _ _ hN]; exact fr 27
  go_quiet (fail)
  go_wp2_with fail
  go_quiet (fail)
  go_wp2_with fail
  refine (forget_any _ N _ nd (H1.out.drewN _)).mono ?_
  rintro e w2 ⟨rfl, ht2, hn2⟩
  go_wp2
  refine leaves_cons (f := 14) (args := #[.pointer (some ⟨N, 27, none⟩)]) (by simp) (by simp [go_sem]) ?_
  refine (unlock_deferred Yba.muLib ⟨N, 27, none⟩ .returning _ hn2.mu (hn2.frozen 27)).mono ?_
  rintro e u' w'' ⟨rfl, rfl, rfl⟩
  exact ⟨_, results_none rfl _ _ _, rfl, ((HT.out.drewN _).trans ht2).setCell _ _, hn2.setMu 0⟩

/-- What the new predecessor is: none, or a copy in new memory of the one that was handed over. -/
def Heir (B : Nat) (w' : World) (dv : Option Addr) (t : Fin 8) (v : Value) : Prop :=
  (dv = none ∧ v = .pointer none) ∨ (dv.isSome = true ∧ ∃ g, v = .pointer (some ⟨g, 0, none⟩) ∧ B ≤ g ∧ w'.heap[g]? = some (.cells (pc t) 27))
theorem setp_any (w : World) (N : Nat) (q : NS) (t : Fin 8) (dv : Option Addr) (h : Nd w N q) (hmx : 0 ≤ q.mx) (hts : t = q.s ∨ q.rp = 3) (hdv : dv = none ∨ ∃ b o, dv = some ⟨b, o, none⟩ ∧ b ≠ N ∧ row? w b o 21 = some (pc t)) :
    Calls Yba.prog 15 #[.pointer (some ⟨N, 0, none⟩), .pointer dv] w fun e w' => e = .returned (.tuple #[]) ∧ Turn N w w' ∧ ∃ v pl, Nd w' N { q with pd := v, pl := pl, un := 5 } ∧ Heir w.heap.size w' dv t v := by
  rcases hdv with rfl | ⟨b, o, rfl, hb, hr⟩
  · exact (setp_nil w N q h).mono fun e w' ⟨h1, h2, h3⟩ => ⟨h1, h2, _, _, h3, .inl ⟨rfl, rfl⟩⟩
  · exact (setp_some w N q t b o h hmx hts hr hb).mono fun e w' ⟨h1, h2, g, pl, h3, h4, h5⟩ => ⟨h1, h2, _, pl, h3, .inr ⟨rfl, g, rfl, h4, h5⟩⟩

set_option maxRecDepth 100000 in
set_option maxHeartbeats 4000000 in
/-- The predecessor is the one that has gone. -/
theorem departed_hit (w : World) (N : Nat) (q : NS) (nd su t : Fin 8) (pb : Nat) (dv : Option Addr) (drec : Bool) (h : Nd w N q) (hmu : q.mu = 0) (hpd : q.pd = .pointer (some ⟨pb, 0, none⟩)) (hpr : row? w pb 0 21 = some (pc nd)) (hpb : pb ≠ N) (hsc : q.sc = .slice none 0 0)
    (hmx : 0 ≤ q.mx) (hts : t = q.s ∨ q.rp = 3) (hdv : dv = none ∨ ∃ b o, dv = some ⟨b, o, none⟩ ∧ b ≠ N ∧ row? w b o 21 = some (pc t)) :
    Calls Yba.prog 8 #[.pointer (some ⟨N, 0, none⟩), .agg (dpc nd (.pointer dv) su drec)] w fun e w' => e = .returned (.tuple #[]) ∧ Turn N w w' ∧ ∃ v pl, Nd w' N ({ q with pd := v, pl := pl, un := 5, rc := q.rc && drec, sy := q.sy && drec }.gone nd) ∧ Heir w.heap.size w' dv t v := by
  have hN := h.lt
  have hplt := row?_lt hpr
  have H1 : Hid (Nd ((w.setCell ⟨N, 27, none⟩ (.int .i32 1)).alloc (.cells (dpc nd (.pointer dv) su drec) 51)) N { q with mu := 1 }) := (h.setMu 1).alloc _
  have HT : Hid (Turn N w ((w.setCell ⟨N, 27, none⟩ (.int .i32 1)).alloc (.cells (dpc nd (.pointer dv) su drec) 51))) := ((Turn.refl _ _).setCell _ _).alloc _
  have cmu : w.cell? ⟨N, 27, none⟩ = some (.int .i32 0) := by rw [← hmu]; exact h.mu
  have cpd : w.cell? ⟨N, 3398, none⟩ = some (.pointer (some ⟨pb, 0, none⟩)) := by rw [← hpd]; exact h.pd
  have fr := h.frozen
  have Hdv : Hid (dv = none ∨ ∃ b o, dv = some ⟨b, o, none⟩ ∧ b ≠ N ∧ row? ((w.setCell ⟨N, 27, none⟩ (.int .i32 1)).alloc (.cells (dpc nd (.pointer dv) su drec) 51)) b o 21 = some (pc t)) := by
    rcases hdv with e | ⟨b, o, e, hb, hr⟩
    · exact .inl e
    · refine .inr ⟨b, o, e, hb, ?_⟩
      rw [row?_alloc_past _ _ _ _ _ (by simpa [World.setCell] using row?_lt hr), row?_setCell, if_neg (by omega)]
      exact hr
  have Hts : Hid (t = q.s ∨ q.rp = 3) := hts
  have Hmx : Hid (0 ≤ q.mx) := hmx
  clear hdv hts hmx
  go_enter_defers Yba.func8, Yba.ntmps8
  go_wp2_with (go_at_call 13; refine (lock_free Yba.muLib ⟨N, 27, none⟩ _ ?h1 ?h2).mono ?_; rotate_left 2; rintro e w' ⟨rfl, rfl⟩)
  case h1 => rw [World.cell?_alloc_past _ _ _ hN]; exact cmu
  case h2 => rw [World.frozen?_alloc_past _ _ _ hN]; exact fr 27
  go_quiet (fail)
  go_wp2_with fail
  refine (setp_any _ N _ t dv (H1.out.drewN _) Hmx.out Hts.out Hdv.out).mono ?_
  rintro e w1 ⟨rfl, ht1, v, pl, hn1, hheir⟩
  have hz1 : w.heap.size < w1.heap.size := by have := ht1.size; simp [World.setCell] at this; omega
  have hrow : row? w1 w.heap.size 0 44 = some (dpc nd (.pointer dv) su drec) := by
    rw [ht1.row (b := w.heap.size) (by simp [World.setCell]) (by omega) 0 44, row?_drewN, row?_alloc_at _ _ _ _ _ _ (by simp [World.setCell]), if_pos (by rw [size_dpc]; omega)]
    exact congrArg some (dpc_all _ _ _ _)
  have d1 : row? w1 w.heap.size 0 21 = some (pc nd) := by have := row?_sub hrow 0 21 (by omega); simpa only [Nat.zero_add, Nat.add_zero, dpc_node] using this
  have d2 : w1.cell? ⟨w.heap.size, 43, none⟩ = some (.bool drec) := by have := row?_cell hrow (j := 43) (by omega); simpa only [Nat.zero_add, dpc_rec] using this
  have c30 : w1.cell? ⟨N, 30, none⟩ = some (.bool q.rc) := hn1.rc
  have c31 : w1.cell? ⟨N, 31, none⟩ = some (.bool q.sy) := hn1.sy
  have c35 : w1.cell? ⟨N, 35, none⟩ = some (.slice none 0 0) := hn1.sc.trans (by rw [← hsc])
  have fr1 := hn1.frozen
  have hNe : N ≠ w.heap.size := by omega
  have hN1 : N < w1.heap.size := by omega
  have Hheir : Hid (Heir w.heap.size w1 dv t v) := by
    rcases hheir with e | ⟨e, g, hg, hB, hr⟩
    · exact .inl e
    · exact .inr ⟨e, g, hg, by simp [World.setCell] at hB; omega, hr⟩
  have HT1 : Hid (Turn N w w1) := (HT.out.drewN _).trans ht1
  have HN1 : Hid (Nd w1 N _) := hn1
  clear hrow ht1 hn1 hheir
  have fin : ∀ (w2 : World) (b1 b2 : Bool), b1 = (q.rc && drec) → b2 = (q.sy && drec) → Turn N w1 w2 → Nd w2 N ({ q with mu := 1, pd := v, pl := pl, un := 5, rc := b1, sy := b2 }.forget nd 160) → Turn N w (w2.setCell ⟨N, 27, none⟩ (.int .i32 0)) ∧ ∃ v pl, Nd (w2.setCell ⟨N, 27, none⟩ (.int .i32 0)) N ({ q with pd := v, pl := pl, un := 5, rc := q.rc && drec, sy := q.sy && drec }.gone nd) ∧ Heir w.heap.size (w2.setCell ⟨N, 27, none⟩ (.int .i32 0)) dv t v := by
    intro w2 b1 b2 e1 e2 ht2 hn2
    subst e1 e2
    refine ⟨(HT1.out.trans ht2).setCell _ _, v, pl, hn2.setMu 0, ?_⟩
    rcases Hheir.out with e | ⟨e, g, hg, hB, hr⟩
    · exact .inl e
    · refine .inr ⟨e, g, hg, hB, ?_⟩
      rw [Below.heap_setCell _ _ _ _ (show g ≠ N by omega), ht2.block g (Array.getElem?_eq_some_iff.1 hr).1 (by omega)]
      exact hr
  have Fin : Hid _ := fin
  clear fin
  go_wp2_with fail
  cases hrc : q.rc <;> cases hsy : q.sy
  all_goals
    rw [hrc] at c30
    rw [hsy] at c31
    refine wp_region_noPanic ?_
    go_region
    refine NoPanic.normal ?_
    go_wp2_with fail
    go_quiet (fail)
    go_wp2_with fail
    refine (forget_any _ N _ nd (((HN1.out.setRc _).setSy _).drewN _)).mono ?_
    rintro e w2 ⟨rfl, ht2, hn2⟩
    go_wp2
    refine leaves_cons (f := 14) (args := #[.pointer (some ⟨N, 27, none⟩)]) (by simp) (by simp [go_sem]) ?_
    refine (unlock_deferred Yba.muLib ⟨N, 27, none⟩ .returning _ hn2.mu (hn2.frozen 27)).mono ?_
    rintro e u' w'' ⟨rfl, rfl, rfl⟩
    exact ⟨_, results_none rfl _ _ _, rfl, Fin.out w2 _ _ (by rw [hrc]; rfl) (by rw [hsy]; rfl) (((((Turn.refl _ _).setCell _ _).setCell _ _).drewN _).trans ht2) hn2⟩

set_option maxRecDepth 100000 in
set_option maxHeartbeats 1000000 in
/-- No predecessor, no successor. -/
theorem departed_free (w : World) (N : Nat) (q : NS) (nd su : Fin 8) (dv : Option Addr) (drec : Bool) (h : Nd w N q) (hmu : q.mu = 0) (hpd : q.pd = .pointer none) (hsc : q.sc = .slice none 0 0) :
    Calls Yba.prog 8 #[.pointer (some ⟨N, 0, none⟩), .agg (dpc nd (.pointer dv) su drec)] w fun e w' => e = .returned (.tuple #[]) ∧ Turn N w w' ∧ Nd w' N (q.gone nd) := by
  have hN := h.lt
  have H1 : Hid (Nd ((w.setCell ⟨N, 27, none⟩ (.int .i32 1)).alloc (.cells (dpc nd (.pointer dv) su drec) 51)) N { q with mu := 1 }) := (h.setMu 1).alloc _
  have HT : Hid (Turn N w ((w.setCell ⟨N, 27, none⟩ (.int .i32 1)).alloc (.cells (dpc nd (.pointer dv) su drec) 51))) := ((Turn.refl _ _).setCell _ _).alloc _
  have cmu : w.cell? ⟨N, 27, none⟩ = some (.int .i32 0) := by rw [← hmu]; exact h.mu
  have cpd : w.cell? ⟨N, 3398, none⟩ = some (.pointer none) := by rw [← hpd]; exact h.pd
  have csc : w.cell? ⟨N, 35, none⟩ = some (.slice none 0 0) := by rw [← hsc]; exact h.sc
  have fr := h.frozen
  go_enter_defers Yba.func8, Yba.ntmps8
  go_wp2_with (go_at_call 13; refine (lock_free Yba.muLib ⟨N, 27, none⟩ _ ?h1 ?h2).mono ?_; rotate_left 2; rintro e w' ⟨rfl, rfl⟩)
  case h1 => rw [World.cell?_alloc_past _ _ _ hN]; exact cmu
  case h2 => rw [World.frozen?_alloc_past _ _ _ hN]; exact fr 27
  go_quiet (fail)
  go_wp2_with fail
  go_quiet (fail)
  go_wp2_with fail
  refine (forget_any _ N _ nd (H1.out.drewN _)).mono ?_
  rintro e w2 ⟨rfl, ht2, hn2⟩
  go_wp2
  refine leaves_cons (f := 14) (args := #[.pointer (some ⟨N, 27, none⟩)]) (by simp) (by simp [go_sem]) ?_
  refine (unlock_deferred Yba.muLib ⟨N, 27, none⟩ .returning _ hn2.mu (hn2.frozen 27)).mono ?_
  rintro e u' w'' ⟨rfl, rfl, rfl⟩
  exact ⟨_, results_none rfl _ _ _, rfl, ((HT.out.drewN _).trans ht2).setCell _ _, hn2.setMu 0⟩
end Go.Proofs.Ybulkbsys
