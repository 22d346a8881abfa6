/-
  RINGHOP: operations on whole peers, identifiers and departures, run without opening them: each is turned ('↓') into a word of our own, and the word has a law.
-/
import Derived.Test.YbulkbsysBase
namespace Go.Proofs.Ybulkbsys
open Go.RowKit

/-! ### Loads -/
def ldRow (t : TypeId) (v : Value) : Sem Value := Instr.loadAt t v
theorem ld27 (v : Value) : Instr.loadAt 27 v = ldRow 27 v := rfl
theorem ld25 (v : Value) : Instr.loadAt 25 v = ldRow 25 v := rfl
theorem ld51 (v : Value) : Instr.loadAt 51 v = ldRow 51 v := rfl
theorem run_ldRow {t : TypeId} {d : TypeDesc} {n : Nat} (hu : Yba.prog.underlying t = some d) (hd : d.isRow = true) (hi : (Yba.prog.info? t).map (·.size) = some n) (w : World) (b o : Nat) (h : (row? w b o n).isSome = true) :
    (ldRow t (.pointer (some ⟨b, o, none⟩))).run Yba.prog w = .ok (.agg ((row? w b o n).getD #[])) w := by
  obtain ⟨cs, hc⟩ := Option.isSome_iff_exists.1 h
  have := run_loadAt_mid (P := Yba.prog) w b o t cs.toList d (row?_range hc) hu hd (by rw [hi]; simp [row?_size hc])
  rw [ldRow, this, hc]
  rfl
/-- What the load comes to, by what the row reads as. -/
def ldOut (P : Program) (t : TypeId) (w : World) (b o : Nat) : Option (Array Value) → Result Value
  | some cs => .ok (.agg cs) w
  | none => (Instr.loadAt t (.pointer (some ⟨b, o, none⟩))).run P w
theorem ldOut_some (P : Program) (t : TypeId) (w : World) (b o : Nat) (cs : Array Value) : ldOut P t w b o (some cs) = .ok (.agg cs) w := rfl
theorem run_ldOut {t : TypeId} {d : TypeDesc} {n : Nat} (hu : Yba.prog.underlying t = some d) (hd : d.isRow = true) (hi : (Yba.prog.info? t).map (·.size) = some n) (w : World) (b o : Nat) :
    (ldRow t (.pointer (some ⟨b, o, none⟩))).run Yba.prog w = ldOut Yba.prog t w b o (row? w b o n) := by
  cases h : row? w b o n with
  | none => rfl
  | some cs => rw [run_ldRow hu hd hi w b o (by rw [h]; rfl), h]; rfl
theorem run_ld27 (w : World) (b o : Nat) : (ldRow 27 (.pointer (some ⟨b, o, none⟩))).run Yba.prog w = ldOut Yba.prog 27 w b o (row? w b o 21) := run_ldOut Yba.underlying27 rfl (by kernel_rfl) w b o
theorem run_ld25 (w : World) (b o : Nat) : (ldRow 25 (.pointer (some ⟨b, o, none⟩))).run Yba.prog w = ldOut Yba.prog 25 w b o (row? w b o 20) := run_ldOut Yba.underlying25 rfl (by kernel_rfl) w b o
theorem run_ld51 (w : World) (b o : Nat) : (ldRow 51 (.pointer (some ⟨b, o, none⟩))).run Yba.prog w = ldOut Yba.prog 51 w b o (row? w b o 44) := run_ldOut Yba.underlying51 rfl (by kernel_rfl) w b o

/-! ### Stores -/
def stRow (t : TypeId) (p v : Value) : Sem Unit := Instr.storeAt t p v
theorem st27 (p v : Value) : Instr.storeAt 27 p v = stRow 27 p v := rfl
theorem st51 (p v : Value) : Instr.storeAt 51 p v = stRow 51 p v := rfl
/-- Each of the cells is one cell. -/
def single (cs : Array Value) : Bool := cs.all (·.oneCell')
theorem single_pc (t : Fin 8) : single (pc t) = true := id (by kernel_rfl)
theorem single_z27 : single z27 = true := id (by kernel_rfl)
theorem run_stRow {t : TypeId} {n : Nat} (hi : (Yba.prog.info? t).map (·.size) = some n) (w : World) (b o : Nat) (cs : Array Value) (h : (row? w b o n).isSome = true) (hl : loose w b = true) (hn : cs.size = n) (h1 : single cs = true) :
    (stRow t (.pointer (some ⟨b, o, none⟩)) (.agg cs)).run Yba.prog w = .ok () (setRow w b o cs) := by
  obtain ⟨c0, hc⟩ := Option.isSome_iff_exists.1 h
  exact run_storeAt_mid (P := Yba.prog) w b o t cs (by rw [hn]; exact row?_there hc hl) (by rw [hi, hn]) h1
/-- What the store comes to, by whether the row is there, may be written and fits. -/
def stOut (P : Program) (t : TypeId) (w : World) (b o : Nat) (cs : Array Value) : Bool → Result Unit
  | true => .ok () (setRow w b o cs)
  | false => (Instr.storeAt t (.pointer (some ⟨b, o, none⟩)) (.agg cs)).run P w
theorem stOut_true (P : Program) (t : TypeId) (w : World) (b o : Nat) (cs : Array Value) : stOut P t w b o cs true = .ok () (setRow w b o cs) := rfl
theorem run_stOut {t : TypeId} {n : Nat} (hi : (Yba.prog.info? t).map (·.size) = some n) (w : World) (b o : Nat) (cs : Array Value) :
    (stRow t (.pointer (some ⟨b, o, none⟩)) (.agg cs)).run Yba.prog w = stOut Yba.prog t w b o cs ((row? w b o n).isSome && loose w b && decide (cs.size = n) && single cs) := by
  cases h : ((row? w b o n).isSome && loose w b && decide (cs.size = n) && single cs) with
  | false => rfl
  | true =>
    simp only [Bool.and_eq_true, decide_eq_true_eq] at h
    obtain ⟨⟨⟨h1, h2⟩, h3⟩, h4⟩ := h
    exact run_stRow hi w b o cs h1 h2 h3 h4
theorem run_st27 (w : World) (b o : Nat) (cs : Array Value) : (stRow 27 (.pointer (some ⟨b, o, none⟩)) (.agg cs)).run Yba.prog w = stOut Yba.prog 27 w b o cs ((row? w b o 21).isSome && loose w b && decide (cs.size = 21) && single cs) := run_stOut (by kernel_rfl) w b o cs
theorem run_st51 (w : World) (b o : Nat) (cs : Array Value) : (stRow 51 (.pointer (some ⟨b, o, none⟩)) (.agg cs)).run Yba.prog w = stOut Yba.prog 51 w b o cs ((row? w b o 44).isSome && loose w b && decide (cs.size = 44) && single cs) := run_stOut (by kernel_rfl) w b o cs

/-! ### New variables -/
def alRow (t : TypeId) : Sem Value := Instr.alloc t true (.tuple #[])
theorem al27 : Instr.alloc 27 true (.tuple #[]) = alRow 27 := rfl
theorem al51 : Instr.alloc 51 true (.tuple #[]) = alRow 51 := rfl
def z51 : Array Value := (z27.push (.pointer none)) ++ z27.push (.bool false)
theorem size_z51 : z51.size = 44 := id (by kernel_rfl)
theorem run_al27 (w : World) : (alRow 27).run Yba.prog w = .ok (.pointer (some ⟨w.heap.size, 0, none⟩)) (w.alloc (.cells z27 27)) := by kernel_rfl
theorem run_al51 (w : World) : (alRow 51).run Yba.prog w = .ok (.pointer (some ⟨w.heap.size, 0, none⟩)) (w.alloc (.cells z51 51)) := by kernel_rfl
def bxRow (t : TypeId) (v : Value) : Sem Value := Instr.box t v
theorem bx27 (v : Value) : Instr.box 27 v = bxRow 27 v := rfl
theorem bx51 (v : Value) : Instr.box 51 v = bxRow 51 v := rfl
theorem bx49 (v : Value) : Instr.box 49 v = bxRow 49 v := rfl
theorem run_bxRow (t : TypeId) (w : World) (cs : Array Value) : (bxRow t (.agg cs)).run Yba.prog w = .ok (.pointer (some ⟨w.heap.size, 0, none⟩)) (w.alloc (.cells cs t)) := rfl

/-! ### Builds -/
def bdRow (t : TypeId) (ps : Array (Nat × Value)) : Sem Value := Instr.build t ps
theorem bd25 (ps : Array (Nat × Value)) : Instr.build 25 ps = bdRow 25 ps := rfl
theorem bd27 (ps : Array (Nat × Value)) : Instr.build 27 ps = bdRow 27 ps := rfl
theorem bd51 (ps : Array (Nat × Value)) : Instr.build 51 ps = bdRow 51 ps := rfl
theorem bd49 (ps : Array (Nat × Value)) : Instr.build 49 ps = bdRow 49 ps := rfl
theorem run_bd25 (w : World) (t : Fin 8) : (bdRow 25 #[(0, .int .u8 (t.val : Int))]).run Yba.prog w = .ok (.agg (idc t)) w := by kernel_rfl
theorem run_bd27 (w : World) (t : Fin 8) : (bdRow 27 #[(0, .agg (idc t)), (1, .string (ad t))]).run Yba.prog w = .ok (.agg (pc t)) w := by kernel_rfl
/-- The cells of a departure. -/
def dpc (a : Fin 8) (p : Value) (b : Fin 8) (r : Bool) : Array Value := ((pc a).push p) ++ ((pc b).push (.bool r))
theorem size_dpc (a : Fin 8) (p : Value) (b : Fin 8) (r : Bool) : (dpc a p b r).size = 44 := id (by kernel_rfl)
theorem run_bd51 (w : World) (a b : Fin 8) (p : Option Addr) (r : Bool) : (bdRow 51 #[(0, .agg (pc a)), (1, .pointer p), (2, .agg (pc b)), (3, .bool r)]).run Yba.prog w = .ok (.agg (dpc a (.pointer p) b r)) w := by kernel_rfl
theorem run_bd51b (w : World) (a b : Fin 8) : (bdRow 51 #[(0, .agg (pc a)), (2, .agg (pc b))]).run Yba.prog w = .ok (.agg (dpc a (.pointer none) b false)) w := by kernel_rfl
theorem single_dpc (a : Fin 8) (p : Option Addr) (b : Fin 8) (r : Bool) : single (dpc a (.pointer p) b r) = true := id (by kernel_rfl)
/-! parts of a departure, of a peer -/
theorem dpc_node (a : Fin 8) (p : Value) (b : Fin 8) (r : Bool) : (dpc a p b r).extract 0 21 = pc a := id (by kernel_rfl)
theorem dpc_succ (a : Fin 8) (p : Value) (b : Fin 8) (r : Bool) : (dpc a p b r).extract 22 43 = pc b := id (by kernel_rfl)
theorem dpc_pred (a : Fin 8) (p : Value) (b : Fin 8) (r : Bool) : (dpc a p b r)[21]? = some p := id (by kernel_rfl)
theorem dpc_rec (a : Fin 8) (p : Value) (b : Fin 8) (r : Bool) : (dpc a p b r)[43]? = some (.bool r) := id (by kernel_rfl)
theorem pc_id (t : Fin 8) : (pc t).extract 0 20 = idc t := id (by kernel_rfl)
theorem pc_pop (t : Fin 8) : (pc t).pop = idc t := id (by kernel_rfl)
theorem pc_all (t : Fin 8) : (pc t).extract 0 21 = pc t := id (by kernel_rfl)
theorem pc_addr (t : Fin 8) : (pc t)[20]? = some (.string (ad t)) := id (by kernel_rfl)
theorem dpc_all (a : Fin 8) (p : Value) (b : Fin 8) (r : Bool) : (dpc a p b r).extract 0 44 = dpc a p b r := id (by kernel_rfl)

/-! ### Comparisons -/
def eqRow (op : BinOp) (t : TypeId) (x y : Value) : Sem Value := binOp op t x y
def egRow (op : BinOp) (t : TypeId) (x y : Operand) (a b : Value) : Sem Unit := eqGuard op t x y a b
theorem eq27 (x y : Value) : binOp .eql 27 x y = eqRow .eql 27 x y := rfl
theorem ne27 (x y : Value) : binOp .neq 27 x y = eqRow .neq 27 x y := rfl
theorem eq25 (x y : Value) : binOp .eql 25 x y = eqRow .eql 25 x y := rfl
theorem eg27 (op : BinOp) (x y : Operand) (a b : Value) : eqGuard op 27 x y a b = egRow op 27 x y a b := rfl
theorem eg25 (op : BinOp) (x y : Operand) (a b : Value) : eqGuard op 25 x y a b = egRow op 25 x y a b := rfl
theorem run_eg27e (w : World) (x y : Operand) (a b : Array Value) : (egRow .eql 27 x y (.agg a) (.agg b)).run Yba.prog w = .ok () w := by kernel_rfl
theorem run_eg27n (w : World) (x y : Operand) (a b : Array Value) : (egRow .neq 27 x y (.agg a) (.agg b)).run Yba.prog w = .ok () w := by kernel_rfl
theorem run_eg25e (w : World) (x y : Operand) (a b : Array Value) : (egRow .eql 25 x y (.agg a) (.agg b)).run Yba.prog w = .ok () w := by kernel_rfl

theorem run_eq27_0 (w : World) : ∀ (t : Nat) (h : t < 8), (eqRow .eql 27 (.agg (pc 0)) (.agg (pc ⟨t, h⟩))).run Yba.prog w = .ok (.bool ((0 : Fin 8) == ⟨t, h⟩)) w
  | 0, _ => by kernel_rfl
  | 1, _ => by kernel_rfl
  | 2, _ => by kernel_rfl
  | 3, _ => by kernel_rfl
  | 4, _ => by kernel_rfl
  | 5, _ => by kernel_rfl
  | 6, _ => by kernel_rfl
  | 7, _ => by kernel_rfl
  | n + 8, h => absurd h (by omega)
theorem run_eq27_1 (w : World) : ∀ (t : Nat) (h : t < 8), (eqRow .eql 27 (.agg (pc 1)) (.agg (pc ⟨t, h⟩))).run Yba.prog w = .ok (.bool ((1 : Fin 8) == ⟨t, h⟩)) w
  | 0, _ => by kernel_rfl
  | 1, _ => by kernel_rfl
  | 2, _ => by kernel_rfl
  | 3, _ => by kernel_rfl
  | 4, _ => by kernel_rfl
  | 5, _ => by kernel_rfl
  | 6, _ => by kernel_rfl
  | 7, _ => by kernel_rfl
  | n + 8, h => absurd h (by omega)
theorem run_eq27_2 (w : World) : ∀ (t : Nat) (h : t < 8), (eqRow .eql 27 (.agg (pc 2)) (.agg (pc ⟨t, h⟩))).run Yba.prog w = .ok (.bool ((2 : Fin 8) == ⟨t, h⟩)) w
  | 0, _ => by kernel_rfl
  | 1, _ => by kernel_rfl
  | 2, _ => by kernel_rfl
  | 3, _ => by kernel_rfl
  | 4, _ => by kernel_rfl
  | 5, _ => by kernel_rfl
  | 6, _ => by kernel_rfl
  | 7, _ => by kernel_rfl
  | n + 8, h => absurd h (by omega)
theorem run_eq27_3 (w : World) : ∀ (t : Nat) (h : t < 8), (eqRow .eql 27 (.agg (pc 3)) (.agg (pc ⟨t, h⟩))).run Yba.prog w = .ok (.bool ((3 : Fin 8) == ⟨t, h⟩)) w
  | 0, _ => by kernel_rfl
  | 1, _ => by kernel_rfl
  | 2, _ => by kernel_rfl
  | 3, _ => by kernel_rfl
  | 4, _ => by kernel_rfl
  | 5, _ => by kernel_rfl
  | 6, _ => by kernel_rfl
  | 7, _ => by kernel_rfl
  | n + 8, h => absurd h (by omega)
theorem run_eq27_4 (w : World) : ∀ (t : Nat) (h : t < 8), (eqRow .eql 27 (.agg (pc 4)) (.agg (pc ⟨t, h⟩))).run Yba.prog w = .ok (.bool ((4 : Fin 8) == ⟨t, h⟩)) w
  | 0, _ => by kernel_rfl
  | 1, _ => by kernel_rfl
  | 2, _ => by kernel_rfl
  | 3, _ => by kernel_rfl
  | 4, _ => by kernel_rfl
  | 5, _ => by kernel_rfl
  | 6, _ => by kernel_rfl
  | 7, _ => by kernel_rfl
  | n + 8, h => absurd h (by omega)
theorem run_eq27_5 (w : World) : ∀ (t : Nat) (h : t < 8), (eqRow .eql 27 (.agg (pc 5)) (.agg (pc ⟨t, h⟩))).run Yba.prog w = .ok (.bool ((5 : Fin 8) == ⟨t, h⟩)) w
  | 0, _ => by kernel_rfl
  | 1, _ => by kernel_rfl
  | 2, _ => by kernel_rfl
  | 3, _ => by kernel_rfl
  | 4, _ => by kernel_rfl
  | 5, _ => by kernel_rfl
  | 6, _ => by kernel_rfl
  | 7, _ => by kernel_rfl
  | n + 8, h => absurd h (by omega)
theorem run_eq27_6 (w : World) : ∀ (t : Nat) (h : t < 8), (eqRow .eql 27 (.agg (pc 6)) (.agg (pc ⟨t, h⟩))).run Yba.prog w = .ok (.bool ((6 : Fin 8) == ⟨t, h⟩)) w
  | 0, _ => by kernel_rfl
  | 1, _ => by kernel_rfl
  | 2, _ => by kernel_rfl
  | 3, _ => by kernel_rfl
  | 4, _ => by kernel_rfl
  | 5, _ => by kernel_rfl
  | 6, _ => by kernel_rfl
  | 7, _ => by kernel_rfl
  | n + 8, h => absurd h (by omega)
theorem run_eq27_7 (w : World) : ∀ (t : Nat) (h : t < 8), (eqRow .eql 27 (.agg (pc 7)) (.agg (pc ⟨t, h⟩))).run Yba.prog w = .ok (.bool ((7 : Fin 8) == ⟨t, h⟩)) w
  | 0, _ => by kernel_rfl
  | 1, _ => by kernel_rfl
  | 2, _ => by kernel_rfl
  | 3, _ => by kernel_rfl
  | 4, _ => by kernel_rfl
  | 5, _ => by kernel_rfl
  | 6, _ => by kernel_rfl
  | 7, _ => by kernel_rfl
  | n + 8, h => absurd h (by omega)
theorem run_eq27_nat (w : World) (t : Fin 8) : ∀ (s : Nat) (h : s < 8), (eqRow .eql 27 (.agg (pc ⟨s, h⟩)) (.agg (pc t))).run Yba.prog w = .ok (.bool ((⟨s, h⟩ : Fin 8) == t)) w
  | 0, _ => run_eq27_0 w t.val t.isLt
  | 1, _ => run_eq27_1 w t.val t.isLt
  | 2, _ => run_eq27_2 w t.val t.isLt
  | 3, _ => run_eq27_3 w t.val t.isLt
  | 4, _ => run_eq27_4 w t.val t.isLt
  | 5, _ => run_eq27_5 w t.val t.isLt
  | 6, _ => run_eq27_6 w t.val t.isLt
  | 7, _ => run_eq27_7 w t.val t.isLt
  | n + 8, h => absurd h (by omega)
theorem run_eq27 (w : World) (s t : Fin 8) : (eqRow .eql 27 (.agg (pc s)) (.agg (pc t))).run Yba.prog w = .ok (.bool (s == t)) w := run_eq27_nat w t s.val s.isLt
theorem run_ne27_0 (w : World) : ∀ (t : Nat) (h : t < 8), (eqRow .neq 27 (.agg (pc 0)) (.agg (pc ⟨t, h⟩))).run Yba.prog w = .ok (.bool ((0 : Fin 8) != ⟨t, h⟩)) w
  | 0, _ => by kernel_rfl
  | 1, _ => by kernel_rfl
  | 2, _ => by kernel_rfl
  | 3, _ => by kernel_rfl
  | 4, _ => by kernel_rfl
  | 5, _ => by kernel_rfl
  | 6, _ => by kernel_rfl
  | 7, _ => by kernel_rfl
  | n + 8, h => absurd h (by omega)
theorem run_ne27_1 (w : World) : ∀ (t : Nat) (h : t < 8), (eqRow .neq 27 (.agg (pc 1)) (.agg (pc ⟨t, h⟩))).run Yba.prog w = .ok (.bool ((1 : Fin 8) != ⟨t, h⟩)) w
  | 0, _ => by kernel_rfl
  | 1, _ => by kernel_rfl
  | 2, _ => by kernel_rfl
  | 3, _ => by kernel_rfl
  | 4, _ => by kernel_rfl
  | 5, _ => by kernel_rfl
  | 6, _ => by kernel_rfl
  | 7, _ => by kernel_rfl
  | n + 8, h => absurd h (by omega)
theorem run_ne27_2 (w : World) : ∀ (t : Nat) (h : t < 8), (eqRow .neq 27 (.agg (pc 2)) (.agg (pc ⟨t, h⟩))).run Yba.prog w = .ok (.bool ((2 : Fin 8) != ⟨t, h⟩)) w
  | 0, _ => by kernel_rfl
  | 1, _ => by kernel_rfl
  | 2, _ => by kernel_rfl
  | 3, _ => by kernel_rfl
  | 4, _ => by kernel_rfl
  | 5, _ => by kernel_rfl
  | 6, _ => by kernel_rfl
  | 7, _ => by kernel_rfl
  | n + 8, h => absurd h (by omega)
theorem run_ne27_3 (w : World) : ∀ (t : Nat) (h : t < 8), (eqRow .neq 27 (.agg (pc 3)) (.agg (pc ⟨t, h⟩))).run Yba.prog w = .ok (.bool ((3 : Fin 8) != ⟨t, h⟩)) w
  | 0, _ => by kernel_rfl
  | 1, _ => by kernel_rfl
  | 2, _ => by kernel_rfl
  | 3, _ => by kernel_rfl
  | 4, _ => by kernel_rfl
  | 5, _ => by kernel_rfl
  | 6, _ => by kernel_rfl
  | 7, _ => by kernel_rfl
  | n + 8, h => absurd h (by omega)
theorem run_ne27_4 (w : World) : ∀ (t : Nat) (h : t < 8), (eqRow .neq 27 (.agg (pc 4)) (.agg (pc ⟨t, h⟩))).run Yba.prog w = .ok (.bool ((4 : Fin 8) != ⟨t, h⟩)) w
  | 0, _ => by kernel_rfl
  | 1, _ => by kernel_rfl
  | 2, _ => by kernel_rfl
  | 3, _ => by kernel_rfl
  | 4, _ => by kernel_rfl
  | 5, _ => by kernel_rfl
  | 6, _ => by kernel_rfl
  | 7, _ => by kernel_rfl
  | n + 8, h => absurd h (by omega)
theorem run_ne27_5 (w : World) : ∀ (t : Nat) (h : t < 8), (eqRow .neq 27 (.agg (pc 5)) (.agg (pc ⟨t, h⟩))).run Yba.prog w = .ok (.bool ((5 : Fin 8) != ⟨t, h⟩)) w
  | 0, _ => by kernel_rfl
  | 1, _ => by kernel_rfl
  | 2, _ => by kernel_rfl
  | 3, _ => by kernel_rfl
  | 4, _ => by kernel_rfl
  | 5, _ => by kernel_rfl
  | 6, _ => by kernel_rfl
  | 7, _ => by kernel_rfl
  | n + 8, h => absurd h (by omega)
theorem run_ne27_6 (w : World) : ∀ (t : Nat) (h : t < 8), (eqRow .neq 27 (.agg (pc 6)) (.agg (pc ⟨t, h⟩))).run Yba.prog w = .ok (.bool ((6 : Fin 8) != ⟨t, h⟩)) w
  | 0, _ => by kernel_rfl
  | 1, _ => by kernel_rfl
  | 2, _ => by kernel_rfl
  | 3, _ => by kernel_rfl
  | 4, _ => by kernel_rfl
  | 5, _ => by kernel_rfl
  | 6, _ => by kernel_rfl
  | 7, _ => by kernel_rfl
  | n + 8, h => absurd h (by omega)
theorem run_ne27_7 (w : World) : ∀ (t : Nat) (h : t < 8), (eqRow .neq 27 (.agg (pc 7)) (.agg (pc ⟨t, h⟩))).run Yba.prog w = .ok (.bool ((7 : Fin 8) != ⟨t, h⟩)) w
  | 0, _ => by kernel_rfl
  | 1, _ => by kernel_rfl
  | 2, _ => by kernel_rfl
  | 3, _ => by kernel_rfl
  | 4, _ => by kernel_rfl
  | 5, _ => by kernel_rfl
  | 6, _ => by kernel_rfl
  | 7, _ => by kernel_rfl
  | n + 8, h => absurd h (by omega)
theorem run_ne27_nat (w : World) (t : Fin 8) : ∀ (s : Nat) (h : s < 8), (eqRow .neq 27 (.agg (pc ⟨s, h⟩)) (.agg (pc t))).run Yba.prog w = .ok (.bool ((⟨s, h⟩ : Fin 8) != t)) w
  | 0, _ => run_ne27_0 w t.val t.isLt
  | 1, _ => run_ne27_1 w t.val t.isLt
  | 2, _ => run_ne27_2 w t.val t.isLt
  | 3, _ => run_ne27_3 w t.val t.isLt
  | 4, _ => run_ne27_4 w t.val t.isLt
  | 5, _ => run_ne27_5 w t.val t.isLt
  | 6, _ => run_ne27_6 w t.val t.isLt
  | 7, _ => run_ne27_7 w t.val t.isLt
  | n + 8, h => absurd h (by omega)
theorem run_ne27 (w : World) (s t : Fin 8) : (eqRow .neq 27 (.agg (pc s)) (.agg (pc t))).run Yba.prog w = .ok (.bool (s != t)) w := run_ne27_nat w t s.val s.isLt
theorem run_eq25_0 (w : World) : ∀ (t : Nat) (h : t < 8), (eqRow .eql 25 (.agg (idc 0)) (.agg (idc ⟨t, h⟩))).run Yba.prog w = .ok (.bool ((0 : Fin 8) == ⟨t, h⟩)) w
  | 0, _ => by kernel_rfl
  | 1, _ => by kernel_rfl
  | 2, _ => by kernel_rfl
  | 3, _ => by kernel_rfl
  | 4, _ => by kernel_rfl
  | 5, _ => by kernel_rfl
  | 6, _ => by kernel_rfl
  | 7, _ => by kernel_rfl
  | n + 8, h => absurd h (by omega)
theorem run_eq25_1 (w : World) : ∀ (t : Nat) (h : t < 8), (eqRow .eql 25 (.agg (idc 1)) (.agg (idc ⟨t, h⟩))).run Yba.prog w = .ok (.bool ((1 : Fin 8) == ⟨t, h⟩)) w
  | 0, _ => by kernel_rfl
  | 1, _ => by kernel_rfl
  | 2, _ => by kernel_rfl
  | 3, _ => by kernel_rfl
  | 4, _ => by kernel_rfl
  | 5, _ => by kernel_rfl
  | 6, _ => by kernel_rfl
  | 7, _ => by kernel_rfl
  | n + 8, h => absurd h (by omega)
theorem run_eq25_2 (w : World) : ∀ (t : Nat) (h : t < 8), (eqRow .eql 25 (.agg (idc 2)) (.agg (idc ⟨t, h⟩))).run Yba.prog w = .ok (.bool ((2 : Fin 8) == ⟨t, h⟩)) w
  | 0, _ => by kernel_rfl
  | 1, _ => by kernel_rfl
  | 2, _ => by kernel_rfl
  | 3, _ => by kernel_rfl
  | 4, _ => by kernel_rfl
  | 5, _ => by kernel_rfl
  | 6, _ => by kernel_rfl
  | 7, _ => by kernel_rfl
  | n + 8, h => absurd h (by omega)
theorem run_eq25_3 (w : World) : ∀ (t : Nat) (h : t < 8), (eqRow .eql 25 (.agg (idc 3)) (.agg (idc ⟨t, h⟩))).run Yba.prog w = .ok (.bool ((3 : Fin 8) == ⟨t, h⟩)) w
  | 0, _ => by kernel_rfl
  | 1, _ => by kernel_rfl
  | 2, _ => by kernel_rfl
  | 3, _ => by kernel_rfl
  | 4, _ => by kernel_rfl
  | 5, _ => by kernel_rfl
  | 6, _ => by kernel_rfl
  | 7, _ => by kernel_rfl
  | n + 8, h => absurd h (by omega)
theorem run_eq25_4 (w : World) : ∀ (t : Nat) (h : t < 8), (eqRow .eql 25 (.agg (idc 4)) (.agg (idc ⟨t, h⟩))).run Yba.prog w = .ok (.bool ((4 : Fin 8) == ⟨t, h⟩)) w
  | 0, _ => by kernel_rfl
  | 1, _ => by kernel_rfl
  | 2, _ => by kernel_rfl
  | 3, _ => by kernel_rfl
  | 4, _ => by kernel_rfl
  | 5, _ => by kernel_rfl
  | 6, _ => by kernel_rfl
  | 7, _ => by kernel_rfl
  | n + 8, h => absurd h (by omega)
theorem run_eq25_5 (w : World) : ∀ (t : Nat) (h : t < 8), (eqRow .eql 25 (.agg (idc 5)) (.agg (idc ⟨t, h⟩))).run Yba.prog w = .ok (.bool ((5 : Fin 8) == ⟨t, h⟩)) w
  | 0, _ => by kernel_rfl
  | 1, _ => by kernel_rfl
  | 2, _ => by kernel_rfl
  | 3, _ => by kernel_rfl
  | 4, _ => by kernel_rfl
  | 5, _ => by kernel_rfl
  | 6, _ => by kernel_rfl
  | 7, _ => by kernel_rfl
  | n + 8, h => absurd h (by omega)
theorem run_eq25_6 (w : World) : ∀ (t : Nat) (h : t < 8), (eqRow .eql 25 (.agg (idc 6)) (.agg (idc ⟨t, h⟩))).run Yba.prog w = .ok (.bool ((6 : Fin 8) == ⟨t, h⟩)) w
  | 0, _ => by kernel_rfl
  | 1, _ => by kernel_rfl
  | 2, _ => by kernel_rfl
  | 3, _ => by kernel_rfl
  | 4, _ => by kernel_rfl
  | 5, _ => by kernel_rfl
  | 6, _ => by kernel_rfl
  | 7, _ => by kernel_rfl
  | n + 8, h => absurd h (by omega)
theorem run_eq25_7 (w : World) : ∀ (t : Nat) (h : t < 8), (eqRow .eql 25 (.agg (idc 7)) (.agg (idc ⟨t, h⟩))).run Yba.prog w = .ok (.bool ((7 : Fin 8) == ⟨t, h⟩)) w
  | 0, _ => by kernel_rfl
  | 1, _ => by kernel_rfl
  | 2, _ => by kernel_rfl
  | 3, _ => by kernel_rfl
  | 4, _ => by kernel_rfl
  | 5, _ => by kernel_rfl
  | 6, _ => by kernel_rfl
  | 7, _ => by kernel_rfl
  | n + 8, h => absurd h (by omega)
theorem run_eq25_nat (w : World) (t : Fin 8) : ∀ (s : Nat) (h : s < 8), (eqRow .eql 25 (.agg (idc ⟨s, h⟩)) (.agg (idc t))).run Yba.prog w = .ok (.bool ((⟨s, h⟩ : Fin 8) == t)) w
  | 0, _ => run_eq25_0 w t.val t.isLt
  | 1, _ => run_eq25_1 w t.val t.isLt
  | 2, _ => run_eq25_2 w t.val t.isLt
  | 3, _ => run_eq25_3 w t.val t.isLt
  | 4, _ => run_eq25_4 w t.val t.isLt
  | 5, _ => run_eq25_5 w t.val t.isLt
  | 6, _ => run_eq25_6 w t.val t.isLt
  | 7, _ => run_eq25_7 w t.val t.isLt
  | n + 8, h => absurd h (by omega)
theorem run_eq25 (w : World) (s t : Fin 8) : (eqRow .eql 25 (.agg (idc s)) (.agg (idc t))).run Yba.prog w = .ok (.bool (s == t)) w := run_eq25_nat w t s.val s.isLt
/-- Addresses tell peers apart. -/
theorem ad_beq : ∀ s t : Fin 8, ((ad s).toList == (ad t).toList) = (s == t) := by decide +kernel
theorem ad_bne (s t : Fin 8) : ((ad s).toList != (ad t).toList) = (s != t) := by simp only [bne, ad_beq]
end Go.Proofs.Ybulkbsys
