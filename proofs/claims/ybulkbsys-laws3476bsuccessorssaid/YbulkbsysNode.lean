/-
  RINGHOP: a node in memory (3,410 cells of one block; an empty map beside it), and what a store into one of its fields makes of it.
-/
import Derived.Test.YbulkbsysPeer
import Derived.Deep.QuietTactic
import Derived.BigQuiet
namespace Go.Proofs.Ybulkbsys
open Go.RowKit

theorem row?_drewN (w : World) (m b o n : Nat) : row? (w.drewN m) b o n = row? w b o n := rfl
theorem loose_drewN (w : World) (m b : Nat) : loose (w.drewN m) b = loose w b := rfl
theorem alloc_drewN (w : World) (m : Nat) (ob : Obj) : (w.drewN m).alloc ob = (w.alloc ob).drewN m := rfl
theorem setCell_drewN (w : World) (m : Nat) (a : Addr) (v : Value) : (w.drewN m).setCell a v = (w.setCell a v).drewN m := rfl
theorem setRow_drewN (w : World) (m b o : Nat) (cs : Array Value) : setRow (w.drewN m) b o cs = (setRow w b o cs).drewN m := by
  unfold setRow
  generalize cs.toList = vs
  induction vs generalizing w o with
  | nil => rfl
  | cons v r ih => rw [World.setCells, World.setCells, setCell_drewN]; exact ih _ _

theorem row?_cell {w : World} {b o n : Nat} {cs : Array Value} (h : row? w b o n = some cs) {j : Nat} (hj : j < n) : w.cell? ⟨b, o + j, none⟩ = cs[j]? := by
  have hs := row?_size h
  have hr := row?_range h
  have : cs.toList[j]? = some (cs[j]'(by omega)) := by simp [hs, hj]
  rw [hr j _ this]
  simp [hs, hj]
theorem row?_sub {w : World} {b o n : Nat} {cs : Array Value} (h : row? w b o n = some cs) (o' n' : Nat) (hl : o' + n' ≤ n) : row? w b (o + o') n' = some (cs.extract o' (o' + n')) := by
  obtain ⟨c, t, f, he, hle, rfl⟩ := row?_some h
  unfold row?
  rw [he]
  simp only
  rw [if_pos (by omega), Array.extract_extract]
  congr 2
  omega
/-- What the table says of a type whose values are appended. -/
theorem info_of {t : TypeId} {a b : Nat} (h : (Yba.prog.info? t).map (fun i => (i.size, i.bytes, i.zero.map (fun z => z.cells.size))) = some (a, b, some a)) :
    ∃ i z, Yba.prog.info? t = some i ∧ i.zero = some z ∧ i.size = a ∧ i.bytes = b ∧ z.cells.size = a := by
  cases hi : Yba.prog.info? t with
  | none => simp [hi] at h
  | some i =>
    simp only [hi, Option.map_some, Option.some.injEq, Prod.mk.injEq] at h
    obtain ⟨h1, h2, h3⟩ := h
    obtain ⟨z, hz, hzs⟩ := Option.map_eq_some_iff.1 h3
    exact ⟨i, z, rfl, hz, h1, h2, hzs⟩

/-- Everything but block N that was there is as it was. -/
structure Turn (N : Nat) (w w' : World) : Prop where
  os : w'.os = w.os
  tape : w'.tape = w.tape
  output : w'.output = w.output
  size : w.heap.size ≤ w'.heap.size
  block : ∀ k, k < w.heap.size → k ≠ N → w'.heap[k]? = w.heap[k]?
theorem Turn.refl (N : Nat) (w : World) : Turn N w w := ⟨rfl, rfl, rfl, Nat.le_refl _, fun _ _ _ => rfl⟩
theorem Turn.trans {N : Nat} {a b c : World} (h : Turn N a b) (k : Turn N b c) : Turn N a c :=
  ⟨k.os.trans h.os, k.tape.trans h.tape, k.output.trans h.output, Nat.le_trans h.size k.size, fun i hi hn => (k.block i (Nat.lt_of_lt_of_le hi h.size) hn).trans (h.block i hi hn)⟩
theorem Turn.of_below {N : Nat} {a b : World} (h : Below a.heap.size a b) : Turn N a b := ⟨h.os, h.tape, h.output, h.size, fun k hk _ => h.block k hk⟩
theorem Turn.alloc {N : Nat} {a w : World} (h : Turn N a w) (o : Obj) : Turn N a (w.alloc o) := h.trans (.of_below ((Below.refl _ _).alloc (Nat.le_refl _) _))
theorem Turn.drew {N : Nat} {a w : World} (h : Turn N a w) : Turn N a w.drew := ⟨h.os, h.tape, h.output, h.size, h.block⟩
theorem Turn.drewN {N : Nat} {a w : World} (h : Turn N a w) : ∀ n, Turn N a (w.drewN n) := fun _ => ⟨h.os, h.tape, h.output, h.size, h.block⟩
theorem Turn.setCell {N : Nat} {a w : World} (h : Turn N a w) (o : Nat) (v : Value) : Turn N a (w.setCell ⟨N, o, none⟩ v) :=
  h.trans ⟨rfl, rfl, rfl, by simp [World.setCell], fun _ _ hn => Below.heap_setCell _ _ _ _ hn⟩
theorem Turn.setRow {N : Nat} {a w : World} (h : Turn N a w) (o : Nat) (cs : Array Value) : Turn N a (setRow w N o cs) := by
  have hb := setRow_below w (Below.refl 0 w) (Nat.zero_le N) o cs
  exact h.trans ⟨hb.os, hb.tape, hb.output, by rw [size_setRow]; exact Nat.le_refl _, fun _ _ hn => setRow_other w N o cs hn⟩
theorem Turn.below {N B : Nat} {a w w' : World} (hb : Below B a w) (h : Turn N w w') (hN : B ≤ N) (hB : B ≤ w.heap.size) : Below B a w' :=
  hb.trans ⟨h.os, h.tape, h.output, h.size, fun k hk => h.block k (by omega) (by omega)⟩
theorem Turn.row {N : Nat} {w w' : World} (h : Turn N w w') {b : Nat} (hb : b < w.heap.size) (hn : b ≠ N) (o n : Nat) : row? w' b o n = row? w b o n := row?_of_block (h.block b hb hn) o n
theorem Turn.cell {N : Nat} {w w' : World} (h : Turn N w w') {b : Nat} (hb : b < w.heap.size) (hn : b ≠ N) (o : Nat) : w'.cell? ⟨b, o, none⟩ = w.cell? ⟨b, o, none⟩ := World.cell?_of_block (w := w) (h.block b hb hn)
theorem Turn.loose {N : Nat} {w w' : World} (h : Turn N w w') {b : Nat} (hb : b < w.heap.size) (hn : b ≠ N) : loose w' b = loose w b := loose_of_block (h.block b hb hn)

/-- What a node's fields hold. -/
structure NS where
  s : Fin 8
  mx : Int
  rp : Int
  mu : Int
  M : Nat
  rc : Bool
  sy : Bool
  sc : Value
  fg : Nat → Fin 8
  fw : Int
  fi : Int
  pd : Value
  pl : Value
  un : Int
  dp : Int

/-- A node lies in block N, its map (empty) in block M. -/
structure Nd (w : World) (N : Nat) (q : NS) : Prop where
  loose : loose w N = true
  self : row? w N 0 21 = some (pc q.s)
  mx : w.cell? ⟨N, 22, none⟩ = some (.int .i64 q.mx)
  rp : w.cell? ⟨N, 23, none⟩ = some (.int .i64 q.rp)
  mu : w.cell? ⟨N, 27, none⟩ = some (.int .i32 q.mu)
  vals : w.cell? ⟨N, 29, none⟩ = some (.map (some q.M))
  rc : w.cell? ⟨N, 30, none⟩ = some (.bool q.rc)
  sy : w.cell? ⟨N, 31, none⟩ = some (.bool q.sy)
  sc : w.cell? ⟨N, 35, none⟩ = some q.sc
  fg : ∀ k, k < 160 → row? w N (36 + k * 21) 21 = some (pc (q.fg k))
  fw : w.cell? ⟨N, 3396, none⟩ = some (.int .i64 q.fw)
  fi : w.cell? ⟨N, 3397, none⟩ = some (.int .i64 q.fi)
  pd : w.cell? ⟨N, 3398, none⟩ = some q.pd
  pl : w.cell? ⟨N, 3399, none⟩ = some q.pl
  un : w.cell? ⟨N, 3400, none⟩ = some (.int .i64 q.un)
  dp : w.cell? ⟨N, 3404, none⟩ = some (.int .i64 q.dp)
  nx : (w.cell? ⟨N, 3407, none⟩).isSome = true
  map : w.heap[q.M]? = some (.map #[] 0)

theorem Nd.ltM {w : World} {N : Nat} {q : NS} (h : Nd w N q) : q.M < w.heap.size := (Array.getElem?_eq_some_iff.1 h.map).1
theorem Nd.lt {w : World} {N : Nat} {q : NS} (h : Nd w N q) : N < w.heap.size := row?_lt h.self
theorem Nd.ne {w : World} {N : Nat} {q : NS} (h : Nd w N q) : q.M ≠ N := by
  intro e
  obtain ⟨c, t, f, he, _, _⟩ := row?_some h.self
  have := h.map
  rw [e, he] at this
  simp at this
theorem Nd.id {w : World} {N : Nat} {q : NS} (h : Nd w N q) : row? w N 0 20 = some (idc q.s) := by
  have := row?_sub h.self 0 20 (by omega)
  simp only [Nat.add_zero, Nat.zero_add, pc_id] at this
  exact this
theorem Nd.addr {w : World} {N : Nat} {q : NS} (h : Nd w N q) : w.cell? ⟨N, 20, none⟩ = some (.string (ad q.s)) := by
  have := row?_cell h.self (j := 20) (by omega)
  simp only [Nat.zero_add, pc_addr] at this
  exact this
theorem Nd.frozen {w : World} {N : Nat} {q : NS} (h : Nd w N q) (o : Nat) : w.frozen? ⟨N, o, none⟩ = false := loose_frozen h.loose o

/-- A node whose two blocks are as they were. -/
theorem Nd.of_blocks {w w' : World} {N : Nat} {q : NS} (h : Nd w N q) (h1 : w'.heap[N]? = w.heap[N]?) (h2 : w'.heap[q.M]? = w.heap[q.M]?) : Nd w' N q := by
  have hc : ∀ o, w'.cell? ⟨N, o, none⟩ = w.cell? ⟨N, o, none⟩ := fun o => World.cell?_of_block (w := w) h1
  have hr : ∀ o n, row? w' N o n = row? w N o n := fun o n => row?_of_block h1 o n
  exact ⟨(loose_of_block h1).trans h.loose, (hr _ _).trans h.self, (hc _).trans h.mx, (hc _).trans h.rp, (hc _).trans h.mu, (hc _).trans h.vals, (hc _).trans h.rc, (hc _).trans h.sy, (hc _).trans h.sc,
    fun k hk => (hr _ _).trans (h.fg k hk), (hc _).trans h.fw, (hc _).trans h.fi, (hc _).trans h.pd, (hc _).trans h.pl, (hc _).trans h.un, (hc _).trans h.dp, by rw [hc]; exact h.nx, h2.trans h.map⟩
theorem Nd.below {w w' : World} {N : Nat} {q : NS} (h : Nd w N q) {B : Nat} (hb : Below B w w') (h1 : N < B) (h2 : q.M < B) : Nd w' N q := h.of_blocks (hb.block N h1) (hb.block q.M h2)
theorem Nd.grown {w w' : World} {N : Nat} {q : NS} (h : Nd w N q) (hb : Below w.heap.size w w') : Nd w' N q := h.below hb h.lt h.ltM
theorem Nd.alloc {w : World} {N : Nat} {q : NS} (h : Nd w N q) (o : Obj) : Nd (w.alloc o) N q := h.grown ((Below.refl _ _).alloc (Nat.le_refl _) _)
theorem Nd.drew {w : World} {N : Nat} {q : NS} (h : Nd w N q) : Nd w.drew N q := h.of_blocks rfl rfl
theorem Nd.drewN {w : World} {N : Nat} {q : NS} (h : Nd w N q) (n : Nat) : Nd (w.drewN n) N q := h.of_blocks rfl rfl

/-- One cell of the node's block is written: what every other field reads. -/
theorem Nd.poke {w : World} {N : Nat} {q : NS} (h : Nd w N q) (o : Nat) (v : Value) (q' : NS) (hs : q'.s = q.s) (hM : q'.M = q.M) (ho : 21 ≤ o) (hfo : o < 36 ∨ 3396 ≤ o) (hfg : q'.fg = q.fg)
    (hmx : (if o = 22 then some v else some (.int .i64 q.mx)) = some (.int .i64 q'.mx)) (hrp : (if o = 23 then some v else some (.int .i64 q.rp)) = some (.int .i64 q'.rp)) (hmu : (if o = 27 then some v else some (.int .i32 q.mu)) = some (.int .i32 q'.mu))
    (hva : o ≠ 29) (hrc : (if o = 30 then some v else some (.bool q.rc)) = some (.bool q'.rc)) (hsy : (if o = 31 then some v else some (.bool q.sy)) = some (.bool q'.sy)) (hsc : (if o = 35 then some v else some q.sc) = some q'.sc)
    (hfw : (if o = 3396 then some v else some (.int .i64 q.fw)) = some (.int .i64 q'.fw)) (hfi : (if o = 3397 then some v else some (.int .i64 q.fi)) = some (.int .i64 q'.fi)) (hpd : (if o = 3398 then some v else some q.pd) = some q'.pd) (hpl : (if o = 3399 then some v else some q.pl) = some q'.pl)
    (hun : (if o = 3400 then some v else some (.int .i64 q.un)) = some (.int .i64 q'.un)) (hdp : (if o = 3404 then some v else some (.int .i64 q.dp)) = some (.int .i64 q'.dp)) : Nd (w.setCell ⟨N, o, none⟩ v) N q' := by
  have key : ∀ {j : Nat} {x : Value}, w.cell? ⟨N, j, none⟩ = some x → (w.setCell ⟨N, o, none⟩ v).cell? ⟨N, j, none⟩ = if o = j then some v else some x := by
    intro j x hx
    split
    · rename_i e; subst e; exact World.cell?_setCell_same _ _ _ hx
    · rename_i e; exact (World.cell?_setCell_other _ _ _ _ (by intro h; cases h; exact e rfl)).trans hx
  have keyr : ∀ {j n : Nat}, (j + n ≤ o ∨ o < j) → row? (w.setCell ⟨N, o, none⟩ v) N j n = row? w N j n := by
    intro j n hj
    rw [row?_setCell, if_neg (by omega)]
  refine ⟨(loose_setCell _ _ _ _).trans h.loose, ?_, (key h.mx).trans hmx, (key h.rp).trans hrp, (key h.mu).trans hmu, ?_, (key h.rc).trans hrc, (key h.sy).trans hsy, (key h.sc).trans hsc, ?_, (key h.fw).trans hfw, (key h.fi).trans hfi, (key h.pd).trans hpd, (key h.pl).trans hpl, (key h.un).trans hun, (key h.dp).trans hdp, ?_, ?_⟩
  · rw [keyr (by omega), hs]; exact h.self
  · rw [key h.vals, if_neg hva, hM]
  · intro k hk
    rw [keyr (by omega), hfg]; exact h.fg k hk
  · obtain ⟨x, hx⟩ := Option.isSome_iff_exists.1 h.nx
    rw [key hx]; split <;> rfl
  · rw [hM, Below.heap_setCell _ _ _ _ h.ne]; exact h.map
theorem Nd.setMu {w : World} {N : Nat} {q : NS} (h : Nd w N q) (x : Int) : Nd (w.setCell ⟨N, 27, none⟩ (.int .i32 x)) N { q with mu := x } := h.poke _ _ _ rfl rfl (by decide) (by decide) rfl rfl rfl rfl (by decide) rfl rfl rfl rfl rfl rfl rfl rfl rfl
theorem Nd.setRc {w : World} {N : Nat} {q : NS} (h : Nd w N q) (x : Bool) : Nd (w.setCell ⟨N, 30, none⟩ (.bool x)) N { q with rc := x } := h.poke _ _ _ rfl rfl (by decide) (by decide) rfl rfl rfl rfl (by decide) rfl rfl rfl rfl rfl rfl rfl rfl rfl
theorem Nd.setSy {w : World} {N : Nat} {q : NS} (h : Nd w N q) (x : Bool) : Nd (w.setCell ⟨N, 31, none⟩ (.bool x)) N { q with sy := x } := h.poke _ _ _ rfl rfl (by decide) (by decide) rfl rfl rfl rfl (by decide) rfl rfl rfl rfl rfl rfl rfl rfl rfl
theorem Nd.setSc {w : World} {N : Nat} {q : NS} (h : Nd w N q) (x : Value) : Nd (w.setCell ⟨N, 35, none⟩ x) N { q with sc := x } := h.poke _ _ _ rfl rfl (by decide) (by decide) rfl rfl rfl rfl (by decide) rfl rfl rfl rfl rfl rfl rfl rfl rfl
theorem Nd.setFw {w : World} {N : Nat} {q : NS} (h : Nd w N q) (x : Int) : Nd (w.setCell ⟨N, 3396, none⟩ (.int .i64 x)) N { q with fw := x } := h.poke _ _ _ rfl rfl (by decide) (by decide) rfl rfl rfl rfl (by decide) rfl rfl rfl rfl rfl rfl rfl rfl rfl
theorem Nd.setFi {w : World} {N : Nat} {q : NS} (h : Nd w N q) (x : Int) : Nd (w.setCell ⟨N, 3397, none⟩ (.int .i64 x)) N { q with fi := x } := h.poke _ _ _ rfl rfl (by decide) (by decide) rfl rfl rfl rfl (by decide) rfl rfl rfl rfl rfl rfl rfl rfl rfl
theorem Nd.setPd {w : World} {N : Nat} {q : NS} (h : Nd w N q) (x : Value) : Nd (w.setCell ⟨N, 3398, none⟩ x) N { q with pd := x } := h.poke _ _ _ rfl rfl (by decide) (by decide) rfl rfl rfl rfl (by decide) rfl rfl rfl rfl rfl rfl rfl rfl rfl
theorem Nd.setPl {w : World} {N : Nat} {q : NS} (h : Nd w N q) (x : Value) : Nd (w.setCell ⟨N, 3399, none⟩ x) N { q with pl := x } := h.poke _ _ _ rfl rfl (by decide) (by decide) rfl rfl rfl rfl (by decide) rfl rfl rfl rfl rfl rfl rfl rfl rfl
theorem Nd.setUn {w : World} {N : Nat} {q : NS} (h : Nd w N q) (x : Int) : Nd (w.setCell ⟨N, 3400, none⟩ (.int .i64 x)) N { q with un := x } := h.poke _ _ _ rfl rfl (by decide) (by decide) rfl rfl rfl rfl (by decide) rfl rfl rfl rfl rfl rfl rfl rfl rfl
theorem Nd.setDp {w : World} {N : Nat} {q : NS} (h : Nd w N q) (x : Int) : Nd (w.setCell ⟨N, 3404, none⟩ (.int .i64 x)) N { q with dp := x } := h.poke _ _ _ rfl rfl (by decide) (by decide) rfl rfl rfl rfl (by decide) rfl rfl rfl rfl rfl rfl rfl rfl rfl
theorem Nd.setNx {w : World} {N : Nat} {q : NS} (h : Nd w N q) (x : Value) : Nd (w.setCell ⟨N, 3407, none⟩ x) N q := h.poke _ _ _ rfl rfl (by decide) (by decide) rfl rfl rfl rfl (by decide) rfl rfl rfl rfl rfl rfl rfl rfl rfl

/-- A finger is written. -/
def put (f : Nat → Fin 8) (k : Nat) (t : Fin 8) : Nat → Fin 8 := fun j => if j = k then t else f j
theorem Nd.setFg {w : World} {N : Nat} {q : NS} (h : Nd w N q) (k : Nat) (hk : k < 160) (t : Fin 8) : Nd (setRow w N (36 + k * 21) (pc t)) N { q with fg := put q.fg k t } := by
  have keyc : ∀ {j : Nat}, (j < 36 ∨ 3396 ≤ j) → (setRow w N (36 + k * 21) (pc t)).cell? ⟨N, j, none⟩ = w.cell? ⟨N, j, none⟩ := by
    intro j hj
    rw [cell?_setRow, if_neg (by rw [size_pc]; omega)]
  refine ⟨(loose_setRow _ _ _ _ _).trans h.loose, ?_, ?_, ?_, ?_, ?_, ?_, ?_, ?_, ?_, ?_, ?_, ?_, ?_, ?_, ?_, ?_, ?_⟩
  · rw [row?_setRow, if_neg (by rw [size_pc]; omega)]; exact h.self
  · rw [keyc (by omega)]; exact h.mx
  · rw [keyc (by omega)]; exact h.rp
  · rw [keyc (by omega)]; exact h.mu
  · rw [keyc (by omega)]; exact h.vals
  · rw [keyc (by omega)]; exact h.rc
  · rw [keyc (by omega)]; exact h.sy
  · rw [keyc (by omega)]; exact h.sc
  · intro j hj
    show _ = some (pc (put q.fg k t j))
    unfold put
    by_cases e : j = k
    · subst e
      rw [if_pos rfl, row?_setRow_same _ _ _ _ _ (by rw [h.fg j hj]; rfl) (size_pc t)]
    · rw [if_neg e, row?_setRow, if_neg (by rw [size_pc]; omega)]; exact h.fg j hj
  · rw [keyc (by omega)]; exact h.fw
  · rw [keyc (by omega)]; exact h.fi
  · rw [keyc (by omega)]; exact h.pd
  · rw [keyc (by omega)]; exact h.pl
  · rw [keyc (by omega)]; exact h.un
  · rw [keyc (by omega)]; exact h.dp
  · rw [keyc (by omega)]; exact h.nx
  · rw [setRow_other w N _ _ h.ne]; exact h.map
end Go.Proofs.Ybulkbsys
