/-
  The law 'hub.LawS3477CToken' returns true at every input. The row's step is after the kit's skeleton for laws over slices (here a slice of bools); the walks are ours (YbulkbszgToken).
-/
import Derived.Test.YbulkbszgToken
import Derived.Test.YbulkbszgRows
import Derived.WalkKit
import Derived.ProofKit
import Derived.OpenShut
import Derived.ChangeOld
import Derived.Below
import Derived.Deep.Grids
namespace Go.Proofs.Ybulkbszg.lawS3477CToken
open Go.ChangeShapes Go.WideShapes Go.ChangeAt Go.RowKit Go.Deep
set_option linter.unusedVariables false

theorem own : ownKnob Yba.prog.godebug = none := by kernel_rfl
theorem laidOut : laidOutB Yba.prog = true := by kernel_rfl

/-- What the walk is told of the slice of bools that came in: it is nil; or it leads to a row of 'cap' cells. -/
def IsBools (w : World) (a : Option Addr) (len cap : Nat) (f : Nat → Bool) : Prop :=
  (a = none ∧ len = 0 ∧ cap = 0) ∨
  ∃ x, a = some x ∧ len ≤ cap ∧ cap ≤ maxLen ∧ ∀ i, i < cap → w.cell? (x.add i) = some (.bool (f i))

theorem walk (a : Option Addr) (len cap : Nat) (f : Nat → Bool) (w : World) (h : IsBools w a len cap f) :
    Calls Yba.prog 4 #[.slice a len cap] w fun e w' => e = .returned (.bool true) ∧ Below w.heap.size w w' := by
  rcases h with ⟨rfl, rfl, rfl⟩ | ⟨x, rfl, hl, hm, hc⟩
  · exact token_some w none 0 0 (fun _ => false) (by omega) (fun i hi => absurd hi (Nat.not_lt_zero i))
  · by_cases hbig : 4096 < len
    · exact token_big w _ len cap hbig (by omega)
    · by_cases h0 : len = 0
      · subst h0
        exact token_some w _ 0 cap (fun _ => false) (by omega) (fun i hi => absurd hi (Nat.not_lt_zero i))
      · obtain ⟨b, off, spot⟩ := x
        have hspot : spot = none := by simpa [Addr.add] using World.cell?_spot (hc 0 (by omega))
        subst hspot
        have hj : ∀ j, j < cap → w.cell? ⟨b, off + j, none⟩ = some (.bool (f j)) := fun j hj => by rw [← Go.WideShapes.add_plain]; exact hc j hj
        have hb : b < w.heap.size := by
          have h0 := hj 0 (by omega)
          simp only [World.cell?] at h0
          cases hg : w.heap[b]? with
          | none => simp [hg] at h0
          | some o => exact (Array.getElem?_eq_some_iff.1 hg).1
        exact token_some w _ len cap f (by omega) (fun i hi => ⟨b, off, rfl, hb, hj i (by omega)⟩)

set_option maxRecDepth 100000 in
theorem lifted (os : Os) (started : os.Started) (H : Type) (enc : TypeId × Value → H) :
    ReturnsInHanded {} Yba.checked os 4 .any (Rows.lawS3477CTokenSpec.pre6 enc Yba.prog Yba.f4 Rows.lawS3477CTokenRow.domain false) (Rows.lawS3477CTokenSpec.post enc Yba.prog Yba.f4 false true false false) := by
  refine returnsInHanded_of_change (C := Yba.checked) own started (by kernel_rfl) Yba.func4
    (ChangeSpec.witness6 (enc := enc) (C := Yba.checked) false ⟨#[], #[.slice none 0 0], []⟩ 8 (by kernel_rfl) (by kernel_rfl) (by kernel_rfl) (by kernel_rfl)) ?_
  intro W base args ds gs before hval0 hW hcnd _
  have hval : ∀ (j : Nat) t v, Yba.f4.params[j]? = some t → args[j]? = some v → Value.okWide Yba.prog W .any base t v := hval0
  have hW' := hW
  obtain ⟨p, q, hA0, hV, rfl, hfz, hnd⟩ := hW
  have hA : DataW.TrodAll enc Yba.prog W 0 (fun _ => true) true Yba.f4.params.toList args.toList ds p := hA0
  rw [Yba.params4] at hA hval
  obtain ⟨v0, vs0, d0, ds0, p0, q0, hargs, rfl, rfl, h0, r0⟩ := trodAll_cons hA
  obtain ⟨rfl, rfl, rfl⟩ := trodAll_nil r0
  obtain rfl : args = #[v0] := by cases args; simp_all
  obtain ⟨rfl, rfl⟩ := trodVars_none hV
  obtain ⟨a0, len0, cap0, rfl⟩ := okWide_slice Yba.underlying70 (hval 0 70 v0 rfl rfl)
  have k0 := h0
  have lt0 : ∀ x ∈ p0, x.block < W.heap.size := by obtain ⟨m, hm⟩ := k0; exact DataW.trod_lt m _ _ _ hm
  obtain ⟨f0, w0⟩ : ∃ f, IsBools W a0 len0 cap0 f := by
    obtain ⟨fuel, hf⟩ := h0
    rcases open_bools Yba.underlying70 Yba.underlying4 (by kernel_rfl) hf with ⟨hcs, _⟩ | ⟨x, l, c, B, hcs, _, hl, hm, _, hcell⟩
    · simp [Value.cells] at hcs
      obtain ⟨rfl, rfl, rfl⟩ := hcs
      exact ⟨fun _ => false, .inl ⟨rfl, rfl, rfl⟩⟩
    · simp [Value.cells] at hcs
      obtain ⟨rfl, rfl, rfl⟩ := hcs
      exact ⟨B, .inr ⟨_, rfl, hl, hm, hcell⟩⟩
  clear hA0 hval0
  refine (walk a0 len0 cap0 f0 W w0).mono fun e W' ⟨he, bel⟩ => ?_
  subst he
  exact ⟨_, rfl, _, _, _, [], _, [], hW', trodAll_mk1 (shut_bool Yba.underlying4 _), (trodAll_cons_mk (Below.trod laidOut (by kernel_rfl) (of_decide_eq_true (by kernel_rfl)) k0 bel lt0) trodAll_mk0), rfl, bel.frame _, fun h => by cases h⟩

theorem over : Rows.lawS3477CTokenRow.holds Yba.pinned (OpenSpec.ofChange Rows.lawS3477CTokenSpec) :=
  OpenClaim.holds_of_wide 4 Yba.f4 rfl rfl rfl rfl rfl rfl rfl ⟨rfl, rfl, rfl, rfl, rfl⟩ rfl rfl rfl rfl rfl (by kernel_rfl) Yba.func4 (by kernel_rfl)
    (of_decide_eq_true (by kernel_rfl)) (by unfold Func.isWrapper; first | (rw [if_pos (by decide +kernel)]; kernel_rfl) | (rw [if_neg (by decide +kernel)]; exact ⟨rfl, rfl⟩))
    (fun os started H enc _ => lifted os started H enc)

theorem proved : Rows.LawS3477CTokenSaid := over
end Go.Proofs.Ybulkbszg.lawS3477CToken

namespace Go.Proofs.Ybulkbszg
theorem lawS3477CToken_said : Rows.LawS3477CTokenSaid := lawS3477CToken.proved
end Go.Proofs.Ybulkbszg
