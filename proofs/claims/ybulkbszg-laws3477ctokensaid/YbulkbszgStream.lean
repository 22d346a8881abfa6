/-
  SIGNALPOST: the stream and its wake channel; newStream and signal, walked.
-/
import Derived.Test.YbulkbszgChecked
import Derived.Test.YbulkbszgComm
import Derived.KernelRfl
import Derived.Laws.Rows
namespace Go.Proofs.Ybulkbszg
open Go.Conc Go.RowKit
theorem bytes27 : ∃ i, Yba.prog.info? 27 = some i ∧ i.bytes = 0 := by
  have h : (Yba.prog.info? 27).map (·.bytes) = some 0 := by kernel_rfl
  obtain ⟨i, hi, hb⟩ := Option.map_eq_some_iff.1 h
  exact ⟨i, hi, hb⟩
theorem mk1 (w : World) : (Instr.makeChan 77 (.int .i64 1)).run Yba.prog w = .ok (.chan (some w.heap.size)) (w.alloc (.chan 1 #[] false 0 0 false)) := by
  obtain ⟨i, hi, hb⟩ := bytes27
  simpa using run_makeChan (P := Yba.prog) (w := w) Yba.underlying77 hi .i64 1 (by omega) (by rw [hb]; omega)
theorem mk0 (w : World) : (Instr.makeChan 77 (.int .i64 0)).run Yba.prog w = .ok (.chan (some w.heap.size)) (w.alloc (.chan 0 #[] false 0 0 false)) := by
  obtain ⟨i, hi, hb⟩ := bytes27
  simpa using run_makeChan (P := Yba.prog) (w := w) Yba.underlying77 hi .i64 0 (by omega) (by rw [hb]; omega)
/-- The stream's cells: wake is channel c, done channel d; all else is empty. -/
def stc (c d : Nat) : Array Value := #[.pointer none, .pointer none, .slice none 0 0, .int .i32 0, .int .u32 0, .slice none 0 0, .int .u64 0, .bool false, .nilIface, .chan (some c), .chan (some d)]
/-- What lies in wake. -/
def tokens (t : Bool) : Array Value := if t then #[.agg #[]] else #[]
/-- Block S is the stream; its wake c holds a token or none. -/
structure St (w : World) (B S c d : Nat) (t : Bool) : Prop where
  blk : w.heap[S]? = some (.cells (stc c d) 79)
  wake : ∃ s r, w.heap[c]? = some (.chan 1 (tokens t) false s r false)
  hS : B ≤ S
  hc : B ≤ c
  hne : c ≠ S
  hcd : c ≠ d
theorem Hid.mk' {p : Prop} (h : p) : Hid p := h
theorem St.cell {w : World} {B S c d : Nat} {t : Bool} (h : St w B S c d t) (i : Nat) : w.cell? ⟨S, i, none⟩ = (stc c d)[i]? := by
  simp [World.cell?, h.blk]
theorem heap_other (w : World) (c c' cap : Nat) (buf : Array Value) (closed : Bool) (s r : Nat) (tm : Bool) (h : c ≠ c') : (w.setChan c cap buf closed s r tm).heap[c']? = w.heap[c']? := by
  simp [World.setChan, Array.getElem?_setIfInBounds_ne h]
theorem St.set {w : World} {B S c d : Nat} {t : Bool} (h : St w B S c d t) (t' : Bool) (s r : Nat) : St (w.setChan c 1 (tokens t') false s r false) B S c d t' := by
  obtain ⟨s0, r0, hw⟩ := h.wake
  refine ⟨(heap_other _ _ _ _ _ _ _ _ _ h.hne).trans h.blk, ⟨s, r, heap_setChan _ _ _ _ _ _ _ _ ?_⟩, h.hS, h.hc, h.hne, h.hcd⟩
  rcases Nat.lt_or_ge c w.heap.size with hlt | hge
  · exact hlt
  · rw [Array.getElem?_eq_none hge] at hw; cases hw
/-- Three blocks laid one behind the other. -/
theorem three (w : World) (x y z : Obj) : (((w.alloc x).alloc y).alloc z).heap[w.heap.size]? = some x ∧ (((w.alloc x).alloc y).alloc z).heap[w.heap.size + 1]? = some y ∧ (((w.alloc x).alloc y).alloc z).heap[w.heap.size + 1 + 1]? = some z := by
  have h1 := heap_alloc_new w x
  have h2 := heap_alloc_new (w.alloc x) y
  have h3 := heap_alloc_new ((w.alloc x).alloc y) z
  rw [World.size_alloc] at h2
  rw [World.size_alloc, World.size_alloc] at h3
  refine ⟨?_, ?_, h3⟩
  · rw [Below.heap_alloc _ _ _ (by simp only [World.size_alloc]; omega), Below.heap_alloc _ _ _ (by simp only [World.size_alloc]; omega)]; exact h1
  · rw [Below.heap_alloc _ _ _ (by simp only [World.size_alloc]; omega)]; exact h2
set_option maxRecDepth 100000 in
theorem new_any (w : World) : Calls Yba.prog 8 #[.pointer none, .pointer none, .slice none 0 0] w fun e w' => ∃ S c d : Nat, e = .returned (.pointer (some ⟨S, 0, none⟩)) ∧ St w' w.heap.size S c d false ∧ Below w.heap.size w w' := by
  have h1 := mk1
  have h0 := mk0
  go_enter Yba.func8, Yba.ntmps8
  go_wp2
  go_region
  · go_wp2
    go_ret
    obtain ⟨x0, x1, x2⟩ := three w (.chan 1 #[] false 0 0 false) (.chan 0 #[] false 0 0 false) (.cells (stc w.heap.size (w.heap.size + 1)) 79)
    exact ⟨w.heap.size + 1 + 1, w.heap.size, w.heap.size + 1, rfl, ⟨x2, ⟨0, 0, x0⟩, by omega, by omega, by omega, by omega⟩, ((((Below.refl _ _).alloc (Nat.le_refl _) _).alloc (by simp only [World.size_alloc]; omega) _).alloc (by simp only [World.size_alloc]; omega) _).drew⟩
  · go_wp2
    go_ret
    obtain ⟨x0, x1, x2⟩ := three w (.chan 0 #[] false 0 0 false) (.chan 1 #[] false 0 0 false) (.cells (stc (w.heap.size + 1) w.heap.size) 79)
    exact ⟨w.heap.size + 1 + 1, w.heap.size + 1, w.heap.size, rfl, ⟨x2, ⟨0, 0, x1⟩, by omega, by omega, by omega, by omega⟩, ((((Below.refl _ _).alloc (Nat.le_refl _) _).alloc (by simp only [World.size_alloc]; omega) _).alloc (by simp only [World.size_alloc]; omega) _).drew⟩
set_option maxRecDepth 100000 in
theorem signal_any (w : World) (B S c d : Nat) (t : Bool) (h : St w B S c d t) : Calls Yba.prog 9 #[.pointer (some ⟨S, 0, none⟩)] w fun e w' => e = .returned (.tuple #[]) ∧ St w' B S c d true ∧ Below B w w' := by
  have c9 : w.cell? ⟨S, 9, none⟩ = some (.chan (some c)) := h.cell 9
  obtain ⟨s, r, hw⟩ := h.wake
  go_enter Yba.func9, Yba.ntmps9
  refine wp_seq_k fun K hK => ?_
  have HK := Hid.mk' hK
  clear hK
  go_wp2
  refine HK.out _ _ ?_
  refine wp_seq_k fun K1 hK1 => ?_
  refine wp_region_trysend (z := .agg #[]) (v := .agg #[]) c rfl ?r0 hw ?h1 ?h2
  case r0 => simp [go_sem, execOp, scase, Act.eval]
  case h1 =>
    intro hsz
    have ht : t = false := by cases t <;> simp_all [tokens]
    subst ht
    have hst := h.set true (s + 1) r
    have hb : Below B w (w.setChan c 1 ((tokens false).push (.agg #[])) false (s + 1) r false) := below_setChan (Below.refl _ _) h.hc _ _ _ _ _ _
    go_wp2
    go_end0
    exact ⟨rfl, hst, hb⟩
  case h2 =>
    intro hsz
    have ht : t = true := by cases t <;> simp_all [tokens]
    subst ht
    go_wp2
    go_end0
    exact ⟨rfl, h, Below.refl _ _⟩
end Go.Proofs.Ybulkbszg
