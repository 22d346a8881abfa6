/-
  RINGHOP: (*Node).departed of a node that has no predecessor, whatever the successors.
-/
import Derived.Test.YbulkbsysDepartedS
namespace Go.Proofs.Ybulkbsys
open Go.RowKit Go.MuLone
/-- What the node is behind 'departed'. -/
def After (q q' : NS) (nd su : Fin 8) (xs zs : List (Fin 8)) : Prop :=
  (less nd xs = xs ∧ zs = xs ∧ q'.dp = q.dp ∧ q'.sy = q.sy) ∨ ∃ ys, xs = nd :: ys ∧ zs = succs q.s q.mx [] (su :: less su ys) ∧ q'.dp = q.dp + 1 ∧ q'.sy = (q.sy && (holds q.s q.rp [] zs == holds q.s q.rp [] xs))
theorem departed_any (w : World) (N : Nat) (q : NS) (nd su : Fin 8) (dv : Option Addr) (drec : Bool) (a : Option Addr) (ca : Nat) (xs : List (Fin 8)) (h : Nd w N q) (hmu : q.mu = 0) (hpd : q.pd = .pointer none) (hsc : q.sc = .slice a xs.length ca) (hx : Lst w N a xs) (lx : xs.length ≤ 1000) (hca : ca = xs.length)
    (m0 : 1 ≤ q.mx) (m1 : q.mx ≤ 1000) (r0 : 1 ≤ q.rp) (r1 : q.rp ≤ 1000) (d0 : 0 ≤ q.dp) (d1 : q.dp ≤ 1000) :
    Calls Yba.prog 8 #[.pointer (some ⟨N, 0, none⟩), .agg (dpc nd (.pointer dv) su drec)] w fun e w' => e = .returned (.tuple #[]) ∧ Turn N w w' ∧ ∃ q' a' c' zs, Nd w' N q' ∧ q'.sc = .slice a' zs.length c' ∧ Lst w' N a' zs ∧ q'.mx = q.mx ∧ q'.rp = q.rp ∧ q'.s = q.s ∧ After q q' nd su xs zs := by
  have hcase : less nd xs = xs ∨ ∃ ys, xs = nd :: ys := by
    rcases xs with _ | ⟨y, ys⟩
    · exact .inl rfl
    · by_cases e : y = nd
      · subst e; exact .inr ⟨ys, rfl⟩
      · exact .inl (by simp only [less]; rw [if_neg e])
  rcases hcase with hm | ⟨ys, rfl⟩
  · refine (departed_miss w N q nd su dv drec a ca xs h hmu hpd hsc hx lx hm).mono ?_
    rintro e w' ⟨rfl, ht, hn⟩
    exact ⟨rfl, ht, _, a, ca, xs, hn, hsc, hx.turn ht, rfl, rfl, rfl, .inl ⟨hm, rfl, rfl, rfl⟩⟩
  · refine (departed_succ w N q nd su dv drec a ca ys h hmu hpd hsc hx lx hca m0 m1 r0 r1 d0 d1).mono ?_
    rintro e w' ⟨rfl, ht, a', c', hn, hl⟩
    exact ⟨rfl, ht, _, a', c', _, hn, rfl, hl, rfl, rfl, rfl, .inr ⟨ys, rfl, rfl, rfl, rfl⟩⟩
end Go.Proofs.Ybulkbsys
