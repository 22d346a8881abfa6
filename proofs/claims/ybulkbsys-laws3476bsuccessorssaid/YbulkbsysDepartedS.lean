/-
  RINGHOP: (*Node).departed of a node that has no predecessor and knows successors.
-/
import Derived.Test.YbulkbsysDeparted
import Derived.Test.YbulkbsysSuccessorList
import Derived.Test.YbulkbsysSetSucc
namespace Go.Proofs.Ybulkbsys
open Go.RowKit Go.MuLone
attribute [local go_sem ↓] ld27 ld25 ld51 st27 st51 al27 al51 bx27 bx51 bx49 bd25 bd27 bd51 bd49 eq27 ne27 eq25 eg27 eg25 pc_addr dpc_pred dpc_rec
attribute [local go_sem] run_ld27 run_ld25 run_ld51 ldOut_some stOut_true run_st27 run_st51 run_al27 run_al51 run_bxRow run_bd25 run_bd27 run_bd51 run_bd51b run_eg27e run_eg27n run_eg25e run_eq27 run_ne27 run_eq25 ad_beq ad_bne ad_fold
attribute [local go_sem] row?_drew loose_drew row?_alloc_past loose_alloc_past row?_alloc_at loose_alloc_at size_setRow loose_setRow loose_setCell row?_setRow_same row?_setRow cell?_setRow frozen?_setRow row?_setCell setRow_drew setRow_alloc_past setRow_alloc_at
attribute [local go_sem] size_pc size_idc size_z27 size_z51 size_dpc single_pc single_z27 single_dpc dpc_node dpc_succ dpc_all pc_id pc_all pc_pop
attribute [local go_sem] row?_drewN loose_drewN alloc_drewN setCell_drewN setRow_drewN
attribute [local go_sem] cell?_alloc_ite newCell_cells frozen?_alloc_ite' row?_alloc_ite newRow?_cells loose_alloc_ite setCell_alloc_ite setNew_cells setRow_alloc_ite layNew_cells
set_option linter.unusedVariables false
set_option linter.unusedSimpArgs false
/-- The list without its first, where that is t. -/
def less (t : Fin 8) : List (Fin 8) → List (Fin 8)
  | [] => []
  | y :: ys => if y = t then ys else y :: ys
set_option maxRecDepth 100000 in
set_option maxHeartbeats 4000000 in
theorem departed_miss (w : World) (N : Nat) (q : NS) (nd su : Fin 8) (dv : Option Addr) (drec : Bool) (a : Option Addr) (ca : Nat) (xs : List (Fin 8)) (h : Nd w N q) (hmu : q.mu = 0) (hpd : q.pd = .pointer none) (hsc : q.sc = .slice a xs.length ca) (hx : Lst w N a xs) (lx : xs.length ≤ 1000) (hmiss : less nd xs = xs) :
    Calls Yba.prog 8 #[.pointer (some ⟨N, 0, none⟩), .agg (dpc nd (.pointer dv) su drec)] w fun e w' => e = .returned (.tuple #[]) ∧ Turn N w w' ∧ Nd w' N (q.gone nd) := by
  have hN := h.lt
  have H1 : Hid (Nd ((w.setCell ⟨N, 27, none⟩ (.int .i32 1)).alloc (.cells (dpc nd (.pointer dv) su drec) 51)) N { q with mu := 1 }) := (h.setMu 1).alloc _
  have HT : Hid (Turn N w ((w.setCell ⟨N, 27, none⟩ (.int .i32 1)).alloc (.cells (dpc nd (.pointer dv) su drec) 51))) := ((Turn.refl _ _).setCell _ _).alloc _
  have cmu : w.cell? ⟨N, 27, none⟩ = some (.int .i32 0) := by rw [← hmu]; exact h.mu
  have cpd : w.cell? ⟨N, 3398, none⟩ = some (.pointer none) := by rw [← hpd]; exact h.pd
  have csc : w.cell? ⟨N, 35, none⟩ = some (.slice a xs.length ca) := by rw [← hsc]; exact h.sc
  have fr := h.frozen
  cases xs with
  | nil =>
    simp only [List.length_nil] at csc
    clear hx lx hmiss hsc
    go_enter_defers Yba.func8, Yba.ntmps8
    go_wp2_with (go_at_call 13; refine (lock_free Yba.muLib ⟨N, 27, none⟩ _ ?h1 ?h2).mono ?_; rotate_left 2; rintro e w' ⟨rfl, rfl⟩)
    case h1 => rw [World.cell?_alloc_past _ _ _ hN]; exact cmu
    case h2 => rw [World.frozen?_alloc_past _ _ _ hN]; exact fr 27
    go_quiet (fail)
    go_wp2_with fail
    go_quiet (fail)
    go_wp2_with fail
    refine (forget_any _ N _ nd (H1.out.drewN _)).mono ?_
    rintro e w2 ⟨rfl, ht2, hn2⟩
    go_wp2
    refine leaves_cons (f := 14) (args := #[.pointer (some ⟨N, 27, none⟩)]) (by simp) (by simp [go_sem]) ?_
    refine (unlock_deferred Yba.muLib ⟨N, 27, none⟩ .returning _ hn2.mu (hn2.frozen 27)).mono ?_
    rintro e u' w'' ⟨rfl, rfl, rfl⟩
    exact ⟨_, results_none rfl _ _ _, rfl, ((HT.out.drewN _).trans ht2).setCell _ _, hn2.setMu 0⟩
  | cons y ys =>
    have hne : (y == nd) = false := by
      simp only [less] at hmiss
      split at hmiss
      · rename_i hy
        have := congrArg List.length hmiss
        simp at this
      · simpa
    obtain ⟨g, o, rfl, hg, hgN, rx⟩ := hx 0 (by simp)
    simp only [List.getElem_cons_zero, Nat.zero_mul, Nat.add_zero] at rx
    simp only [List.length_cons] at csc lx
    clear hx hmiss hsc
    go_enter_defers Yba.func8, Yba.ntmps8
    go_wp2_with (go_at_call 13; refine (lock_free Yba.muLib ⟨N, 27, none⟩ _ ?h1 ?h2).mono ?_; rotate_left 2; rintro e w' ⟨rfl, rfl⟩)
    case h1 => rw [World.cell?_alloc_past _ _ _ hN]; exact cmu
    case h2 => rw [World.frozen?_alloc_past _ _ _ hN]; exact fr 27
    go_quiet (fail)
    go_wp2_with fail
    go_quiet (fail)
    go_wp2_with fail
    refine (forget_any _ N _ nd (H1.out.drewN _)).mono ?_
    rintro e w2 ⟨rfl, ht2, hn2⟩
    go_wp2
    refine leaves_cons (f := 14) (args := #[.pointer (some ⟨N, 27, none⟩)]) (by simp) (by simp [go_sem]) ?_
    refine (unlock_deferred Yba.muLib ⟨N, 27, none⟩ .returning _ hn2.mu (hn2.frozen 27)).mono ?_
    rintro e u' w'' ⟨rfl, rfl, rfl⟩
    exact ⟨_, results_none rfl _ _ _, rfl, ((HT.out.drewN _).trans ht2).setCell _ _, hn2.setMu 0⟩
set_option maxRecDepth 100000 in
set_option maxHeartbeats 4000000 in
theorem departed_succ (w : World) (N : Nat) (q : NS) (nd su : Fin 8) (dv : Option Addr) (drec : Bool) (a : Option Addr) (ca : Nat) (ys : List (Fin 8)) (h : Nd w N q) (hmu : q.mu = 0) (hpd : q.pd = .pointer none) (hsc : q.sc = .slice a (nd :: ys).length ca) (hx : Lst w N a (nd :: ys)) (lx : (nd :: ys).length ≤ 1000) (hca : ca = (nd :: ys).length)
    (m0 : 1 ≤ q.mx) (m1 : q.mx ≤ 1000) (r0 : 1 ≤ q.rp) (r1 : q.rp ≤ 1000) (d0 : 0 ≤ q.dp) (d1 : q.dp ≤ 1000) :
    Calls Yba.prog 8 #[.pointer (some ⟨N, 0, none⟩), .agg (dpc nd (.pointer dv) su drec)] w fun e w' => e = .returned (.tuple #[]) ∧ Turn N w w' ∧ ∃ a' c', Nd w' N ({ q with sc := .slice a' (succs q.s q.mx [] (su :: less su ys)).length c', sy := q.sy && (holds q.s q.rp [] (succs q.s q.mx [] (su :: less su ys)) == holds q.s q.rp [] (nd :: ys)), dp := q.dp + 1 }.gone nd) ∧ Lst w' N a' (succs q.s q.mx [] (su :: less su ys)) := by
  have hN := h.lt
  have H1 : Hid (Nd ((w.setCell ⟨N, 27, none⟩ (.int .i32 1)).alloc (.cells (dpc nd (.pointer dv) su drec) 51)) N { q with mu := 1 }) := (h.setMu 1).alloc _
  have HT : Hid (Turn N w ((w.setCell ⟨N, 27, none⟩ (.int .i32 1)).alloc (.cells (dpc nd (.pointer dv) su drec) 51))) := ((Turn.refl _ _).setCell _ _).alloc _
  have cmu : w.cell? ⟨N, 27, none⟩ = some (.int .i32 0) := by rw [← hmu]; exact h.mu
  have cpd : w.cell? ⟨N, 3398, none⟩ = some (.pointer none) := by rw [← hpd]; exact h.pd
  have csc : w.cell? ⟨N, 35, none⟩ = some (.slice a (nd :: ys).length ca) := by rw [← hsc]; exact h.sc
  have fr := h.frozen
  obtain ⟨g, o, rfl, hg, hgN, rx⟩ := hx 0 (by simp)
  have HX : Hid (Lst ((w.setCell ⟨N, 27, none⟩ (.int .i32 1)).alloc (.cells (dpc nd (.pointer dv) su drec) 51)) N (some ⟨g, o, none⟩) (nd :: ys)) := hx.turn HT.out
  simp only [List.getElem_cons_zero, Nat.zero_mul, Nat.add_zero] at rx
  have hx0 := hx
  subst hca
  have HSC : Hid (q.sc = .slice (some ⟨g, o, none⟩) (nd :: ys).length (nd :: ys).length) := hsc
  have HLx : Hid ((nd :: ys).length ≤ 1000) := lx
  have HR : Hid (row? ((w.setCell ⟨N, 27, none⟩ (.int .i32 1)).alloc (.cells (dpc nd (.pointer dv) su drec) 51)) w.heap.size 0 44 = some (dpc nd (.pointer dv) su drec)) := by
    show row? _ _ _ _ = _
    rw [row?_alloc_at _ _ _ _ _ _ (by simp [World.setCell]), if_pos (by rw [size_dpc]; omega)]
    exact congrArg some (dpc_all _ _ _ _)
  clear hx hsc
  have hcase : ys = [] ∨ (∃ z zs, ys = z :: zs ∧ (z == su) = false) ∨ ys = [su] ∨ ∃ z zs, ys = su :: z :: zs := by
    rcases ys with _ | ⟨z, _ | ⟨z2, zs⟩⟩
    · exact .inl rfl
    · by_cases hz : z = su
      · subst hz; exact .inr (.inr (.inl rfl))
      · exact .inr (.inl ⟨z, _, rfl, by simpa using hz⟩)
    · by_cases hz : z = su
      · subst hz; exact .inr (.inr (.inr ⟨z2, zs, rfl⟩))
      · exact .inr (.inl ⟨z, _, rfl, by simpa using hz⟩)
  rcases hcase with rfl | ⟨z, zs, rfl, hz⟩ | rfl | ⟨z, zs, rfl⟩
  · rw [show less su [] = [] from rfl]
    simp only [List.length_cons, List.length_nil, Nat.zero_add] at csc lx
    clear hx0
    go_enter_defers Yba.func8, Yba.ntmps8
    go_wp2_with (go_at_call 13; refine (lock_free Yba.muLib ⟨N, 27, none⟩ _ ?h1 ?h2).mono ?_; rotate_left 2; rintro e w' ⟨rfl, rfl⟩)
    case h1 => rw [World.cell?_alloc_past _ _ _ hN]; exact cmu
    case h2 => rw [World.frozen?_alloc_past _ _ _ hN]; exact fr 27
    go_quiet (fail)
    go_wp2_with fail
    go_quiet (fail)
    go_wp2_with fail
    go_quiet (fail)
    go_wp2_with fail
    refine (sucl_any _ N _ (some ⟨g, o, none⟩) 0 [] su (H1.out.drewN _) (Lst.nil _ _ _) (by have := HLx.out; simp only [List.length_cons, List.length_nil] at this ⊢; omega) m0 m1).mono ?_
    rintro e w1 ⟨v1, rfl, hown1, hb1⟩
    obtain ⟨a1, c1, rfl, hl1⟩ := hown1.lst (N := N) (by simp [World.setCell]; omega)
    have hn1 : Hid (Nd w1 N { q with mu := 1 }) := (H1.out.drewN _).grown hb1
    have HL1 : Hid (Lst w1 N a1 (succs q.s q.mx [] (su :: []))) := hl1
    have HX1 : Hid (Lst w1 N (some ⟨g, o, none⟩) (nd :: [])) := (HX.out.below (below_dN (Below.refl _ _) _) (Nat.le_refl _)).below hb1 (Nat.le_refl _)
    have hr1 : row? w1 w.heap.size 0 44 = some (dpc nd (.pointer dv) su drec) := (row?_of_block (hb1.block w.heap.size (by simp [World.setCell])) _ _).trans ((row?_drewN _ _ _ _ _).trans HR.out)
    have HT1 : Hid (Turn N w w1) := (HT.out.drewN _).trans (.of_below hb1)
    have HR1 : Hid (row? w1 w.heap.size 0 44 = some (dpc nd (.pointer dv) su drec)) := hr1
    clear hl1 hown1 hb1 hr1 HX HT H1 HR rx csc cpd cmu fr
    go_wp2_with fail
    refine (sets_any _ N _ (some ⟨g, o, none⟩) a1 _ c1 (nd :: []) (succs q.s q.mx [] (su :: [])) hn1.out HSC.out HX1.out HL1.out HLx.out (by have h1 := length_succs q.s q.mx (su :: []) []; have := HLx.out; simp at h1 this ⊢; omega) r0 r1).mono ?_
    rintro e w2 ⟨rfl, ht2, hn2⟩
    have HN2 : Hid (Nd w2 N _) := hn2
    have cdp : w2.cell? ⟨N, 3404, none⟩ = some (.int .i64 q.dp) := hn2.dp
    have fr2 := hn2.frozen
    have hz1 : w.heap.size < w1.heap.size := row?_lt HR1.out
    have hr2 : row? w2 w.heap.size 0 44 = some (dpc nd (.pointer dv) su drec) := (ht2.row hz1 (by omega) _ _).trans HR1.out
    have hz2 : w.heap.size < w2.heap.size := row?_lt hr2
    have d1 : row? w2 w.heap.size 0 21 = some (pc nd) := by have := row?_sub hr2 0 21 (by omega); simpa only [Nat.zero_add, Nat.add_zero, dpc_node] using this
    have HT2 : Hid (Turn N w w2) := HT1.out.trans ht2
    have HL2 : Hid (Lst w2 N a1 (succs q.s q.mx [] (su :: []))) := HL1.out.turn ht2
    clear hn1 HX1 HL1 HT1 HR1 ht2 hr2 hn2
    go_wp2_with fail
    refine (forget_any _ N _ nd (HN2.out.setDp _)).mono ?_
    rintro e w3 ⟨rfl, ht3, hn3⟩
    go_wp2
    refine leaves_cons (f := 14) (args := #[.pointer (some ⟨N, 27, none⟩)]) (by simp) (by simp [go_sem]) ?_
    refine (unlock_deferred Yba.muLib ⟨N, 27, none⟩ .returning _ hn3.mu (hn3.frozen 27)).mono ?_
    rintro e u' w'' ⟨rfl, rfl, rfl⟩
    exact ⟨_, results_none rfl _ _ _, rfl, ((HT2.out.setCell _ _).trans ht3).setCell _ _, a1, c1, hn3.setMu 0, ((HL2.out.turn ((Turn.refl _ _).setCell _ _)).turn ht3).turn ((Turn.refl _ _).setCell _ _)⟩
  · rw [show less su (z :: zs) = z :: zs by simp only [less]; rw [if_neg (by simpa using hz)]]
    have rz : row? w g (o + 21) 21 = some (pc z) := by
      obtain ⟨g', o', ho, _, _, hr⟩ := hx0 1 (by simp)
      simp only [Option.some.injEq, Addr.mk.injEq, and_true] at ho
      obtain ⟨rfl, rfl⟩ := ho
      simpa using hr
    clear hx0
    simp only [List.length_cons] at csc lx
    have z0 : decide ((0 : Int) < (zs.length : Int) + 1 + 1) = true := by rw [decide_eq_true_eq]; omega
    have z1 : decide ((0 : Int) < (zs.length : Int) + 1 + 1 + 1) = true := by rw [decide_eq_true_eq]; omega
    have z3 : decide ((0 : Int) < (zs.length : Int) + 2) = true := by rw [decide_eq_true_eq]; omega
    have z2 : decide ((0 : Int) < (zs.length : Int) + 1) = true := by rw [decide_eq_true_eq]; omega
    go_enter_defers Yba.func8, Yba.ntmps8
    go_wp2_with (go_at_call 13; refine (lock_free Yba.muLib ⟨N, 27, none⟩ _ ?h1 ?h2).mono ?_; rotate_left 2; rintro e w' ⟨rfl, rfl⟩)
    case h1 => rw [World.cell?_alloc_past _ _ _ hN]; exact cmu
    case h2 => rw [World.frozen?_alloc_past _ _ _ hN]; exact fr 27
    go_quiet (fail)
    go_wp2_with fail
    go_quiet (fail)
    go_wp2_with fail
    go_quiet (fail)
    go_wp2_with fail
    refine (sucl_any _ N _ (some ⟨g, o + 21, none⟩) (zs.length + 1) (z :: zs) su (H1.out.drewN _) (HX.out.tail.below (below_dN (Below.refl _ _) _) (Nat.le_refl _)) (by have := HLx.out; simp only [List.length_cons, List.length_nil] at this ⊢; omega) m0 m1).mono ?_
    rintro e w1 ⟨v1, rfl, hown1, hb1⟩
    obtain ⟨a1, c1, rfl, hl1⟩ := hown1.lst (N := N) (by simp [World.setCell]; omega)
    have hn1 : Hid (Nd w1 N { q with mu := 1 }) := (H1.out.drewN _).grown hb1
    have HL1 : Hid (Lst w1 N a1 (succs q.s q.mx [] (su :: (z :: zs)))) := hl1
    have HX1 : Hid (Lst w1 N (some ⟨g, o, none⟩) (nd :: (z :: zs))) := (HX.out.below (below_dN (Below.refl _ _) _) (Nat.le_refl _)).below hb1 (Nat.le_refl _)
    have hr1 : row? w1 w.heap.size 0 44 = some (dpc nd (.pointer dv) su drec) := (row?_of_block (hb1.block w.heap.size (by simp [World.setCell])) _ _).trans ((row?_drewN _ _ _ _ _).trans HR.out)
    have HT1 : Hid (Turn N w w1) := (HT.out.drewN _).trans (.of_below hb1)
    have HR1 : Hid (row? w1 w.heap.size 0 44 = some (dpc nd (.pointer dv) su drec)) := hr1
    clear hl1 hown1 hb1 hr1 HX HT H1 HR rx csc cpd cmu fr
    go_wp2_with fail
    refine (sets_any _ N _ (some ⟨g, o, none⟩) a1 _ c1 (nd :: (z :: zs)) (succs q.s q.mx [] (su :: (z :: zs))) hn1.out HSC.out HX1.out HL1.out HLx.out (by have h1 := length_succs q.s q.mx (su :: (z :: zs)) []; have := HLx.out; simp at h1 this ⊢; omega) r0 r1).mono ?_
    rintro e w2 ⟨rfl, ht2, hn2⟩
    have HN2 : Hid (Nd w2 N _) := hn2
    have cdp : w2.cell? ⟨N, 3404, none⟩ = some (.int .i64 q.dp) := hn2.dp
    have fr2 := hn2.frozen
    have hz1 : w.heap.size < w1.heap.size := row?_lt HR1.out
    have hr2 : row? w2 w.heap.size 0 44 = some (dpc nd (.pointer dv) su drec) := (ht2.row hz1 (by omega) _ _).trans HR1.out
    have hz2 : w.heap.size < w2.heap.size := row?_lt hr2
    have d1 : row? w2 w.heap.size 0 21 = some (pc nd) := by have := row?_sub hr2 0 21 (by omega); simpa only [Nat.zero_add, Nat.add_zero, dpc_node] using this
    have HT2 : Hid (Turn N w w2) := HT1.out.trans ht2
    have HL2 : Hid (Lst w2 N a1 (succs q.s q.mx [] (su :: (z :: zs)))) := HL1.out.turn ht2
    clear hn1 HX1 HL1 HT1 HR1 ht2 hr2 hn2
    go_wp2_with fail
    refine (forget_any _ N _ nd (HN2.out.setDp _)).mono ?_
    rintro e w3 ⟨rfl, ht3, hn3⟩
    go_wp2
    refine leaves_cons (f := 14) (args := #[.pointer (some ⟨N, 27, none⟩)]) (by simp) (by simp [go_sem]) ?_
    refine (unlock_deferred Yba.muLib ⟨N, 27, none⟩ .returning _ hn3.mu (hn3.frozen 27)).mono ?_
    rintro e u' w'' ⟨rfl, rfl, rfl⟩
    exact ⟨_, results_none rfl _ _ _, rfl, ((HT2.out.setCell _ _).trans ht3).setCell _ _, a1, c1, hn3.setMu 0, ((HL2.out.turn ((Turn.refl _ _).setCell _ _)).turn ht3).turn ((Turn.refl _ _).setCell _ _)⟩
  · rw [show less su [su] = [] by simp [less]]
    have rz : row? w g (o + 21) 21 = some (pc su) := by
      obtain ⟨g', o', ho, _, _, hr⟩ := hx0 1 (by simp)
      simp only [Option.some.injEq, Addr.mk.injEq, and_true] at ho
      obtain ⟨rfl, rfl⟩ := ho
      simpa using hr
    clear hx0
    simp only [List.length_cons, List.length_nil] at csc lx
    go_enter_defers Yba.func8, Yba.ntmps8
    go_wp2_with (go_at_call 13; refine (lock_free Yba.muLib ⟨N, 27, none⟩ _ ?h1 ?h2).mono ?_; rotate_left 2; rintro e w' ⟨rfl, rfl⟩)
    case h1 => rw [World.cell?_alloc_past _ _ _ hN]; exact cmu
    case h2 => rw [World.frozen?_alloc_past _ _ _ hN]; exact fr 27
    go_quiet (fail)
    go_wp2_with fail
    go_quiet (fail)
    go_wp2_with fail
    go_quiet (fail)
    go_wp2_with fail
    refine (sucl_any _ N _ (some ⟨g, o + 21, none⟩) 0 [] su (H1.out.drewN _) (Lst.nil _ _ _) (by have := HLx.out; simp only [List.length_cons, List.length_nil] at this ⊢; omega) m0 m1).mono ?_
    rintro e w1 ⟨v1, rfl, hown1, hb1⟩
    obtain ⟨a1, c1, rfl, hl1⟩ := hown1.lst (N := N) (by simp [World.setCell]; omega)
    have hn1 : Hid (Nd w1 N { q with mu := 1 }) := (H1.out.drewN _).grown hb1
    have HL1 : Hid (Lst w1 N a1 (succs q.s q.mx [] (su :: []))) := hl1
    have HX1 : Hid (Lst w1 N (some ⟨g, o, none⟩) (nd :: [su])) := (HX.out.below (below_dN (Below.refl _ _) _) (Nat.le_refl _)).below hb1 (Nat.le_refl _)
    have hr1 : row? w1 w.heap.size 0 44 = some (dpc nd (.pointer dv) su drec) := (row?_of_block (hb1.block w.heap.size (by simp [World.setCell])) _ _).trans ((row?_drewN _ _ _ _ _).trans HR.out)
    have HT1 : Hid (Turn N w w1) := (HT.out.drewN _).trans (.of_below hb1)
    have HR1 : Hid (row? w1 w.heap.size 0 44 = some (dpc nd (.pointer dv) su drec)) := hr1
    clear hl1 hown1 hb1 hr1 HX HT H1 HR rx csc cpd cmu fr
    go_wp2_with fail
    refine (sets_any _ N _ (some ⟨g, o, none⟩) a1 _ c1 (nd :: [su]) (succs q.s q.mx [] (su :: [])) hn1.out HSC.out HX1.out HL1.out HLx.out (by have h1 := length_succs q.s q.mx (su :: []) []; have := HLx.out; simp at h1 this ⊢; omega) r0 r1).mono ?_
    rintro e w2 ⟨rfl, ht2, hn2⟩
    have HN2 : Hid (Nd w2 N _) := hn2
    have cdp : w2.cell? ⟨N, 3404, none⟩ = some (.int .i64 q.dp) := hn2.dp
    have fr2 := hn2.frozen
    have hz1 : w.heap.size < w1.heap.size := row?_lt HR1.out
    have hr2 : row? w2 w.heap.size 0 44 = some (dpc nd (.pointer dv) su drec) := (ht2.row hz1 (by omega) _ _).trans HR1.out
    have hz2 : w.heap.size < w2.heap.size := row?_lt hr2
    have d1 : row? w2 w.heap.size 0 21 = some (pc nd) := by have := row?_sub hr2 0 21 (by omega); simpa only [Nat.zero_add, Nat.add_zero, dpc_node] using this
    have HT2 : Hid (Turn N w w2) := HT1.out.trans ht2
    have HL2 : Hid (Lst w2 N a1 (succs q.s q.mx [] (su :: []))) := HL1.out.turn ht2
    clear hn1 HX1 HL1 HT1 HR1 ht2 hr2 hn2
    go_wp2_with fail
    refine (forget_any _ N _ nd (HN2.out.setDp _)).mono ?_
    rintro e w3 ⟨rfl, ht3, hn3⟩
    go_wp2
    refine leaves_cons (f := 14) (args := #[.pointer (some ⟨N, 27, none⟩)]) (by simp) (by simp [go_sem]) ?_
    refine (unlock_deferred Yba.muLib ⟨N, 27, none⟩ .returning _ hn3.mu (hn3.frozen 27)).mono ?_
    rintro e u' w'' ⟨rfl, rfl, rfl⟩
    exact ⟨_, results_none rfl _ _ _, rfl, ((HT2.out.setCell _ _).trans ht3).setCell _ _, a1, c1, hn3.setMu 0, ((HL2.out.turn ((Turn.refl _ _).setCell _ _)).turn ht3).turn ((Turn.refl _ _).setCell _ _)⟩
  · rw [show less su (su :: z :: zs) = z :: zs by simp [less]]
    have rz : row? w g (o + 21) 21 = some (pc su) := by
      obtain ⟨g', o', ho, _, _, hr⟩ := hx0 1 (by simp)
      simp only [Option.some.injEq, Addr.mk.injEq, and_true] at ho
      obtain ⟨rfl, rfl⟩ := ho
      simpa using hr
    clear hx0
    simp only [List.length_cons] at csc lx
    have z0 : decide ((0 : Int) < (zs.length : Int) + 1 + 1) = true := by rw [decide_eq_true_eq]; omega
    have z1 : decide ((0 : Int) < (zs.length : Int) + 1 + 1 + 1) = true := by rw [decide_eq_true_eq]; omega
    have z3 : decide ((0 : Int) < (zs.length : Int) + 2) = true := by rw [decide_eq_true_eq]; omega
    have z2 : decide ((0 : Int) < (zs.length : Int) + 1) = true := by rw [decide_eq_true_eq]; omega
    go_enter_defers Yba.func8, Yba.ntmps8
    go_wp2_with (go_at_call 13; refine (lock_free Yba.muLib ⟨N, 27, none⟩ _ ?h1 ?h2).mono ?_; rotate_left 2; rintro e w' ⟨rfl, rfl⟩)
    case h1 => rw [World.cell?_alloc_past _ _ _ hN]; exact cmu
    case h2 => rw [World.frozen?_alloc_past _ _ _ hN]; exact fr 27
    go_quiet (fail)
    go_wp2_with fail
    go_quiet (fail)
    go_wp2_with fail
    go_quiet (fail)
    go_wp2_with fail
    refine (sucl_any _ N _ (some ⟨g, o + 21 + 21, none⟩) (zs.length + 1) (z :: zs) su (H1.out.drewN _) (HX.out.tail.tail.below (below_dN (Below.refl _ _) _) (Nat.le_refl _)) (by have := HLx.out; simp only [List.length_cons, List.length_nil] at this ⊢; omega) m0 m1).mono ?_
    rintro e w1 ⟨v1, rfl, hown1, hb1⟩
    obtain ⟨a1, c1, rfl, hl1⟩ := hown1.lst (N := N) (by simp [World.setCell]; omega)
    have hn1 : Hid (Nd w1 N { q with mu := 1 }) := (H1.out.drewN _).grown hb1
    have HL1 : Hid (Lst w1 N a1 (succs q.s q.mx [] (su :: (z :: zs)))) := hl1
    have HX1 : Hid (Lst w1 N (some ⟨g, o, none⟩) (nd :: (su :: z :: zs))) := (HX.out.below (below_dN (Below.refl _ _) _) (Nat.le_refl _)).below hb1 (Nat.le_refl _)
    have hr1 : row? w1 w.heap.size 0 44 = some (dpc nd (.pointer dv) su drec) := (row?_of_block (hb1.block w.heap.size (by simp [World.setCell])) _ _).trans ((row?_drewN _ _ _ _ _).trans HR.out)
    have HT1 : Hid (Turn N w w1) := (HT.out.drewN _).trans (.of_below hb1)
    have HR1 : Hid (row? w1 w.heap.size 0 44 = some (dpc nd (.pointer dv) su drec)) := hr1
    clear hl1 hown1 hb1 hr1 HX HT H1 HR rx csc cpd cmu fr
    go_wp2_with fail
    refine (sets_any _ N _ (some ⟨g, o, none⟩) a1 _ c1 (nd :: (su :: z :: zs)) (succs q.s q.mx [] (su :: (z :: zs))) hn1.out HSC.out HX1.out HL1.out HLx.out (by have h1 := length_succs q.s q.mx (su :: (z :: zs)) []; have := HLx.out; simp at h1 this ⊢; omega) r0 r1).mono ?_
    rintro e w2 ⟨rfl, ht2, hn2⟩
    have HN2 : Hid (Nd w2 N _) := hn2
    have cdp : w2.cell? ⟨N, 3404, none⟩ = some (.int .i64 q.dp) := hn2.dp
    have fr2 := hn2.frozen
    have hz1 : w.heap.size < w1.heap.size := row?_lt HR1.out
    have hr2 : row? w2 w.heap.size 0 44 = some (dpc nd (.pointer dv) su drec) := (ht2.row hz1 (by omega) _ _).trans HR1.out
    have hz2 : w.heap.size < w2.heap.size := row?_lt hr2
    have d1 : row? w2 w.heap.size 0 21 = some (pc nd) := by have := row?_sub hr2 0 21 (by omega); simpa only [Nat.zero_add, Nat.add_zero, dpc_node] using this
    have HT2 : Hid (Turn N w w2) := HT1.out.trans ht2
    have HL2 : Hid (Lst w2 N a1 (succs q.s q.mx [] (su :: (z :: zs)))) := HL1.out.turn ht2
    clear hn1 HX1 HL1 HT1 HR1 ht2 hr2 hn2
    go_wp2_with fail
    refine (forget_any _ N _ nd (HN2.out.setDp _)).mono ?_
    rintro e w3 ⟨rfl, ht3, hn3⟩
    go_wp2
    refine leaves_cons (f := 14) (args := #[.pointer (some ⟨N, 27, none⟩)]) (by simp) (by simp [go_sem]) ?_
    refine (unlock_deferred Yba.muLib ⟨N, 27, none⟩ .returning _ hn3.mu (hn3.frozen 27)).mono ?_
    rintro e u' w'' ⟨rfl, rfl, rfl⟩
    exact ⟨_, results_none rfl _ _ _, rfl, ((HT2.out.setCell _ _).trans ht3).setCell _ _, a1, c1, hn3.setMu 0, ((HL2.out.turn ((Turn.refl _ _).setCell _ _)).turn ht3).turn ((Turn.refl _ _).setCell _ _)⟩
end Go.Proofs.Ybulkbsys
