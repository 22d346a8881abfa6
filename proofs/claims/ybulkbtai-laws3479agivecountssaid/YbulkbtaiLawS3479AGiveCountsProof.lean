/-
  The law 'server.LawS3479AGiveCounts' returns true at every input. The row's step is after the kit's skeleton for laws (here a slice of structs of two bytes); the walks are ours (YbulkbtaiLaw).
-/
import Derived.Test.YbulkbtaiLaw
import Derived.Test.YbulkbtaiRows
import Derived.WalkKit
import Derived.ProofKit
import Derived.OpenShut
import Derived.ChangeOld
import Derived.Below
import Derived.Deep.SlicePairs
namespace Go.Proofs.Ybulkbtai.lawS3479AGiveCounts
open Go.ChangeShapes Go.WideShapes Go.ChangeAt Go.RowKit Go.Deep
set_option linter.unusedVariables false

theorem own : ownKnob Yba.prog.godebug = none := by kernel_rfl
theorem laidOut : laidOutB Yba.prog = true := by kernel_rfl

/-- What the walk is told of the slice of steps that came in: it is nil; or it leads to a row of 'cap' pairs of bytes. -/
def IsSteps (w : World) (a : Option Addr) (len cap : Nat) (op kk : Nat → Int) : Prop :=
  (a = none ∧ len = 0 ∧ cap = 0) ∨
  ∃ x, a = some x ∧ len ≤ cap ∧ cap ≤ maxLen ∧ ∀ i, i < cap → w.cell? (x.add (i * 2)) = some (.int .u8 (op i)) ∧ w.cell? (x.add (i * 2 + 1)) = some (.int .u8 (kk i)) ∧ (Lit.int .u8 (op i)).wf = true ∧ (Lit.int .u8 (kk i)).wf = true

theorem walk (a0 : Int) (a : Option Addr) (len cap : Nat) (op kk : Nat → Int) (w : World) (w0 : (Lit.int .u8 a0).wf = true) (h : IsSteps w a len cap op kk) :
    Calls Yba.prog 3 #[.int .u8 a0, .slice a len cap] w fun e w' => e = .returned (.bool true) ∧ Below w.heap.size w w' := by
  obtain ⟨b00, b01⟩ := bounds_u8 w0
  rcases h with ⟨rfl, rfl, rfl⟩ | ⟨x, rfl, hl, hm, hc⟩
  · exact give_law w a0 none 0 0 op kk b00 b01 (by omega) (fun i hi => absurd hi (Nat.not_lt_zero i)) (fun i hi => absurd hi (Nat.not_lt_zero i))
  · by_cases hbig : 1024 < len
    · exact give_big w a0 _ len cap hbig (by omega)
    · by_cases h0 : len = 0
      · subst h0
        exact give_law w a0 _ 0 cap op kk b00 b01 (by omega) (fun i hi => absurd hi (Nat.not_lt_zero i)) (fun i hi => absurd hi (Nat.not_lt_zero i))
      · obtain ⟨b, off, spot⟩ := x
        have hspot : spot = none := by simpa [Addr.add] using World.cell?_spot (hc 0 (by omega)).1
        subst hspot
        have hj0 : ∀ j, j < cap → w.cell? ⟨b, off + j * 2, none⟩ = some (.int .u8 (op j)) := fun j hj => by rw [← Go.WideShapes.add_plain]; exact (hc j hj).1
        have hj1 : ∀ j, j < cap → w.cell? ⟨b, off + j * 2 + 1, none⟩ = some (.int .u8 (kk j)) := fun j hj => by rw [Nat.add_assoc, ← Go.WideShapes.add_plain]; exact (hc j hj).2.1
        have hb : b < w.heap.size := by
          have h0 := hj0 0 (by omega)
          simp only [World.cell?] at h0
          cases hg : w.heap[b]? with
          | none => simp [hg] at h0
          | some o => exact (Array.getElem?_eq_some_iff.1 hg).1
        refine give_law w a0 _ len cap op kk b00 b01 (by omega) (fun i hi => ⟨b, off, rfl, hb, hj0 i (by omega), hj1 i (by omega)⟩) (fun i hi => ?_)
        obtain ⟨_, _, g0, g1⟩ := hc i (by omega)
        exact ⟨(bounds_u8 g0).1, (bounds_u8 g0).2, (bounds_u8 g1).1, (bounds_u8 g1).2⟩

set_option maxRecDepth 100000 in
theorem lifted (os : Os) (started : os.Started) (H : Type) (enc : TypeId × Value → H) :
    ReturnsInHanded {} Yba.checked os 3 .any (Rows.lawS3479AGiveCountsSpec.pre6 enc Yba.prog Yba.f3 Rows.lawS3479AGiveCountsRow.domain false) (Rows.lawS3479AGiveCountsSpec.post enc Yba.prog Yba.f3 false true false false) := by
  refine returnsInHanded_of_change (C := Yba.checked) own started (by kernel_rfl) Yba.func3
    (ChangeSpec.witness6 (enc := enc) (C := Yba.checked) false ⟨#[], #[.int .u8 0, .slice none 0 0], []⟩ 8 (by kernel_rfl) (by kernel_rfl) (by kernel_rfl) (by kernel_rfl)) ?_
  intro W base args ds gs before hval0 hW hcnd _
  have hval : ∀ (j : Nat) t v, Yba.f3.params[j]? = some t → args[j]? = some v → Value.okWide Yba.prog W .any base t v := hval0
  have hW' := hW
  obtain ⟨p, q, hA0, hV, rfl, hfz, hnd⟩ := hW
  have hA : DataW.TrodAll enc Yba.prog W 0 (fun _ => true) true Yba.f3.params.toList args.toList ds p := hA0
  rw [Yba.params3] at hA hval
  obtain ⟨v0, vs0, d0, ds0, p0, q0, hargs, rfl, rfl, h0, r0⟩ := trodAll_cons hA
  obtain ⟨v1, vs1, d1, ds1, p1, q1, rfl, rfl, rfl, h1, r1⟩ := trodAll_cons r0
  obtain ⟨rfl, rfl, rfl⟩ := trodAll_nil r1
  obtain rfl : args = #[v0, v1] := by cases args; simp_all
  obtain ⟨rfl, rfl⟩ := trodVars_none hV
  obtain ⟨a0, rfl, rfl, rfl, w0⟩ := open_int Yba.underlying5 (hval 0 5 v0 rfl rfl) h0
  obtain ⟨a1, len1, cap1, rfl⟩ := okWide_slice Yba.underlying22 (hval 1 22 v1 rfl rfl)
  have k1 := h1
  have lt1 : ∀ x ∈ p1, x.block < W.heap.size := by obtain ⟨m, hm⟩ := k1; exact DataW.trod_lt m _ _ _ hm
  obtain ⟨op, kk, w1⟩ : ∃ op kk, IsSteps W a1 len1 cap1 op kk := by
    obtain ⟨fuel, hf⟩ := h1
    rcases open_slice_pairs Yba.underlying22 Yba.underlying36 (by kernel_rfl) rfl rfl (by kernel_rfl) (by kernel_rfl) hf with ⟨hcs, _⟩ | ⟨x, l, c, m, n, V0, V1, D0, D1, P0, P1, hcs, _, hl, hm, hmm, _, hcell⟩
    · simp [Value.cells] at hcs
      obtain ⟨rfl, rfl, rfl⟩ := hcs
      exact ⟨fun _ => 0, fun _ => 0, .inl ⟨rfl, rfl, rfl⟩⟩
    · simp [Value.cells] at hcs
      obtain ⟨rfl, rfl, rfl⟩ := hcs
      simp only [if_true] at hmm
      subst hmm
      obtain ⟨f, hf2⟩ := choose_lt (α := Int × Int) (p := fun i z => V0 i = .int .u8 z.1 ∧ V1 i = .int .u8 z.2 ∧ (Lit.int .u8 z.1).wf = true ∧ (Lit.int .u8 z.2).wf = true) (fun i hi => by
        obtain ⟨_, _, t0, t1⟩ := hcell i hi
        obtain ⟨n0, e0, _, g0⟩ := DataW.trod_int Yba.underlying5 t0
        obtain ⟨n1, e1, _, g1⟩ := DataW.trod_int Yba.underlying5 t1
        exact ⟨(n0, n1), by simpa using e0, by simpa using e1, g0, g1⟩)
      refine ⟨fun i => (f i).1, fun i => (f i).2, .inr ⟨_, rfl, hl, hm, fun i hi => ?_⟩⟩
      obtain ⟨x0, x1, _, _⟩ := hcell i hi
      obtain ⟨y0, y1, y2, y3⟩ := hf2 i hi
      exact ⟨by rw [x0, y0], by rw [x1, y1], y2, y3⟩
  clear hA0 hval0
  refine (walk a0 a1 len1 cap1 op kk W w0 w1).mono fun e W' ⟨he, bel⟩ => ?_
  subst he
  exact ⟨_, rfl, _, _, _, [], _, [], hW', trodAll_mk1 (shut_bool Yba.underlying4 _), (trodAll_cons_mk (shut_int Yba.underlying5 w0) (trodAll_cons_mk (Below.trod laidOut (by kernel_rfl) (of_decide_eq_true (by kernel_rfl)) k1 bel lt1) trodAll_mk0)), rfl, bel.frame _, fun h => by cases h⟩

theorem over : Rows.lawS3479AGiveCountsRow.holds Yba.pinned (OpenSpec.ofChange Rows.lawS3479AGiveCountsSpec) :=
  OpenClaim.holds_of_wide 3 Yba.f3 rfl rfl rfl rfl rfl rfl rfl ⟨rfl, rfl, rfl, rfl, rfl⟩ rfl rfl rfl rfl rfl (by kernel_rfl) Yba.func3 (by kernel_rfl)
    (of_decide_eq_true (by kernel_rfl)) (by unfold Func.isWrapper; first | (rw [if_pos (by decide +kernel)]; kernel_rfl) | (rw [if_neg (by decide +kernel)]; exact ⟨rfl, rfl⟩))
    (fun os started H enc _ => lifted os started H enc)

theorem proved : Rows.LawS3479AGiveCountsSaid := over
end Go.Proofs.Ybulkbtai.lawS3479AGiveCounts

namespace Go.Proofs.Ybulkbtai
theorem lawS3479AGiveCounts_said : Rows.LawS3479AGiveCountsSaid := lawS3479AGiveCounts.proved
end Go.Proofs.Ybulkbtai
