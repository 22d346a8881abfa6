/-
  RINGHOP: two pointers to peers compared.
-/
import Derived.Test.YbulkbsysRowOf
import Derived.LaidEqlPtr
namespace Go.Proofs.Ybulkbsys
open Go.RowKit

/-- Block b is a plain row of cells, none frozen. -/
def plain (w : World) (b : Nat) : Bool :=
  match w.heap[b]? with
  | some (.cells _ _ f) => f == (0, 0)
  | _ => false
theorem plain_of_block {w w' : World} {b : Nat} (h : w'.heap[b]? = w.heap[b]?) : plain w' b = plain w b := by unfold plain; rw [h]
theorem plain_of {w : World} {b : Nat} {c : Array Value} {t : TypeId} (h : w.heap[b]? = some (.cells c t)) : plain w b = true := by unfold plain; rw [h]; rfl
theorem plain_some {w : World} {b : Nat} (h : plain w b = true) : ∃ c t, w.heap[b]? = some (.cells c t (0, 0)) := by
  unfold plain at h
  split at h
  · rename_i c t f he
    simp only [beq_iff_eq] at h
    subst h
    exact ⟨c, t, he⟩
  · cases h
theorem plain_lt {w : World} {b : Nat} (h : plain w b = true) : b < w.heap.size := by
  obtain ⟨c, t, he⟩ := plain_some h
  exact (Array.getElem?_eq_some_iff.1 he).1
section
variable (w : World)
theorem heapDrew : w.drew.heap = w.heap := rfl
theorem plain_drew (b : Nat) : plain w.drew b = plain w b := rfl
theorem plain_drewN (n b : Nat) : plain (w.drewN n) b = plain w b := rfl
theorem plain_setCell (a : Addr) (v : Value) (b : Nat) : plain (w.setCell a v) b = plain w b := by
  by_cases h : b = a.block
  · subst h
    unfold plain
    simp only [World.setCell, Array.getElem?_modify, if_true]
    cases w.heap[a.block]? with
    | none => rfl
    | some ob => cases ob <;> rfl
  · exact plain_of_block (Below.heap_setCell _ _ _ _ h)
theorem plain_alloc_ite (c : Array Value) (t : TypeId) (b : Nat) : plain (w.alloc (.cells c t)) b = if b < w.heap.size then plain w b else decide (b = w.heap.size) := by
  split
  · rename_i h; exact plain_of_block (Below.heap_alloc _ _ _ h)
  · rename_i h
    by_cases e : b = w.heap.size
    · subst e; rw [plain_of (heap_alloc_new w _)]; simp
    · unfold plain
      rw [heap_alloc_ge w _ (show w.heap.size < b by omega)]
      simp [e]
theorem plain_alloc_past (ob : Obj) (b : Nat) (h : b < w.heap.size) : plain (w.alloc ob) b = plain w b := plain_of_block (Below.heap_alloc _ _ _ h)
/-- What '==' of two pointers comes to, by whether both lead to plain blocks. -/
def peqOut (P : Program) (w : World) (a b : Nat) : Bool → Result Value
  | true => .ok (.bool (decide (a = b))) w
  | false => (binOp .eql 29 (.pointer (some ⟨a, 0, none⟩)) (.pointer (some ⟨b, 0, none⟩))).run P w
theorem peqOut_true (P : Program) (a b : Nat) : peqOut P w a b true = .ok (.bool (decide (a = b))) w := rfl
theorem run_eq29 (a b : Nat) : (binOp .eql 29 (.pointer (some ⟨a, 0, none⟩)) (.pointer (some ⟨b, 0, none⟩))).run Yba.prog w = peqOut Yba.prog w a b (plain w a && plain w b) := by
  cases h : (plain w a && plain w b) with
  | false => rfl
  | true =>
    simp only [Bool.and_eq_true] at h
    obtain ⟨i, z, hi, _, hs, _⟩ := info27
    obtain ⟨ca, ta, ha⟩ := plain_some h.1
    obtain ⟨cb, tb, hb⟩ := plain_some h.2
    rw [peqOut]
    by_cases e : a = b
    · subst e
      rw [run_eql_ptr_same w _ Yba.underlying29 hi]
      simp
    · rw [run_eql_ptr_other w Yba.underlying29 hi (by rw [hs]; decide) (by intro h; cases h; exact e rfl) ha hb]
      simp [e]
end
end Go.Proofs.Ybulkbsys
