import Derived.Test.YbulkbsxcProg
import Derived.WalkKit
import Derived.Below
namespace Go.Proofs.Ybulkbsxc.fromWalk
open Go.RowKit

/-- 'from', the wait held is the one asked for: its 'since'; nothing is written. -/
theorem keep (b o : Nat) (v m s now : Int) (w : World) (h0 : w.cell? ⟨b, o, none⟩ = some (.int .u64 v)) (h1 : w.cell? ⟨b, o + 1, none⟩ = some (.int .u32 m)) (h2 : w.cell? ⟨b, o + 2, none⟩ = some (.int .u64 s)) :
    Calls Yba.prog 5 #[.pointer (some ⟨b, o, none⟩), .int .u64 v, .int .u32 m, .int .u64 now] w fun e w' => e = .returned (.int .u64 s) ∧ w' = w := by
  go_enter Yba.func5, Yba.ntmps5
  go_wp2
  go_ret
  exact ⟨rfl, rfl⟩

/-- 'from', another view: the wait begins anew. -/
theorem anew_view (b o : Nat) (v m s v' m' now : Int) (w : World) (h0 : w.cell? ⟨b, o, none⟩ = some (.int .u64 v)) (h1 : w.cell? ⟨b, o + 1, none⟩ = some (.int .u32 m)) (h2 : w.cell? ⟨b, o + 2, none⟩ = some (.int .u64 s))
    (f0 : w.frozen? ⟨b, o, none⟩ = false) (f1 : w.frozen? ⟨b, o + 1, none⟩ = false) (f2 : w.frozen? ⟨b, o + 2, none⟩ = false) (hne : (v != v') = true) :
    Calls Yba.prog 5 #[.pointer (some ⟨b, o, none⟩), .int .u64 v', .int .u32 m', .int .u64 now] w fun e w' => e = .returned (.int .u64 now) ∧
      w' = ((w.setCell ⟨b, o, none⟩ (.int .u64 v')).setCell ⟨b, o + 1, none⟩ (.int .u32 m')).setCell ⟨b, o + 2, none⟩ (.int .u64 now) := by
  go_enter Yba.func5, Yba.ntmps5
  go_wp2
  go_ret
  exact ⟨rfl, rfl⟩

/-- 'from', the same view, another member: the wait begins anew. -/
theorem anew_member (b o : Nat) (v m s m' now : Int) (w : World) (h0 : w.cell? ⟨b, o, none⟩ = some (.int .u64 v)) (h1 : w.cell? ⟨b, o + 1, none⟩ = some (.int .u32 m)) (h2 : w.cell? ⟨b, o + 2, none⟩ = some (.int .u64 s))
    (f0 : w.frozen? ⟨b, o, none⟩ = false) (f1 : w.frozen? ⟨b, o + 1, none⟩ = false) (f2 : w.frozen? ⟨b, o + 2, none⟩ = false) (hne : (m != m') = true) :
    Calls Yba.prog 5 #[.pointer (some ⟨b, o, none⟩), .int .u64 v, .int .u32 m', .int .u64 now] w fun e w' => e = .returned (.int .u64 now) ∧
      w' = ((w.setCell ⟨b, o, none⟩ (.int .u64 v)).setCell ⟨b, o + 1, none⟩ (.int .u32 m')).setCell ⟨b, o + 2, none⟩ (.int .u64 now) := by
  go_enter Yba.func5, Yba.ntmps5
  go_wp2
  go_ret
  exact ⟨rfl, rfl⟩

/-- A 'waited' in block b: its three cells, each of which may be written. -/
def Held (w : World) (b : Nat) (v m s : Int) : Prop :=
  w.cell? ⟨b, 0, none⟩ = some (.int .u64 v) ∧ w.cell? ⟨b, 1, none⟩ = some (.int .u32 m) ∧ w.cell? ⟨b, 2, none⟩ = some (.int .u64 s) ∧
  w.frozen? ⟨b, 0, none⟩ = false ∧ w.frozen? ⟨b, 1, none⟩ = false ∧ w.frozen? ⟨b, 2, none⟩ = false

theorem held_anew {w : World} {b : Nat} {v m s : Int} (h : Held w b v m s) (v' m' s' : Int) :
    Held (((w.setCell ⟨b, 0, none⟩ (.int .u64 v')).setCell ⟨b, 0 + 1, none⟩ (.int .u32 m')).setCell ⟨b, 0 + 2, none⟩ (.int .u64 s')) b v' m' s' := by
  obtain ⟨c0, c1, c2, f0, f1, f2⟩ := h
  refine ⟨?_, ?_, ?_, ?_, ?_, ?_⟩
  · rw [World.cell?_setCell_other _ _ _ _ (by simp), World.cell?_setCell_other _ _ _ _ (by simp)]
    exact World.cell?_setCell_same _ _ _ c0
  · rw [World.cell?_setCell_other _ _ _ _ (by simp)]
    exact World.cell?_setCell_same _ _ _ ((World.cell?_setCell_other _ _ _ _ (by simp)).trans c1)
  · exact World.cell?_setCell_same _ _ _ ((World.cell?_setCell_other _ _ _ _ (by simp)).trans ((World.cell?_setCell_other _ _ _ _ (by simp)).trans c2))
  · simpa using f0
  · simpa using f1
  · simpa using f2

/-- 'from' at a wait that is not the one asked for. -/
theorem anew (B b : Nat) (hB : B ≤ b) (v m s v' m' now : Int) (w : World) (h : Held w b v m s) (hne : ¬ (v = v' ∧ m = m')) :
    Calls Yba.prog 5 #[.pointer (some ⟨b, 0, none⟩), .int .u64 v', .int .u32 m', .int .u64 now] w fun e w' => e = .returned (.int .u64 now) ∧
      Held w' b v' m' now ∧ Below B w w' ∧ w'.heap.size = w.heap.size := by
  obtain ⟨c0, c1, c2, f0, f1, f2⟩ := id h
  by_cases e1 : v = v'
  · subst e1
    refine (anew_member b 0 v m s m' now w c0 c1 c2 f0 f1 f2 (by simp; exact fun e => hne ⟨rfl, e⟩)).mono ?_
    rintro e w' ⟨rfl, rfl⟩
    exact ⟨rfl, held_anew h _ _ _, (((Below.refl _ _).setCell hB _).setCell hB _).setCell hB _, by simp⟩
  · refine (anew_view b 0 v m s v' m' now w c0 c1 c2 f0 f1 f2 (by simpa using e1)).mono ?_
    rintro e w' ⟨rfl, rfl⟩
    exact ⟨rfl, held_anew h _ _ _, (((Below.refl _ _).setCell hB _).setCell hB _).setCell hB _, by simp⟩
end Go.Proofs.Ybulkbsxc.fromWalk
