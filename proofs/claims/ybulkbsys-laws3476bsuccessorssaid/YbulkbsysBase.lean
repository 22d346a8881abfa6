/-
  RINGHOP: the words in which the walks speak of peers and rows of cells, and the laws by which the walk runs an operation on a whole peer (21 cells) without opening it.
-/
import Derived.Test.YbulkbsysProg
import Derived.WalkKit
import Derived.Below
import Derived.Deep.MidRow
import Derived.KernelRfl
namespace Go.Proofs.Ybulkbsys
open Go.RowKit

/-! ### Peers -/
/-- The address of peer t: one byte, 'a' + t. -/
def ad (t : Fin 8) : ByteArray := Utf8.encode (97 + (t.val : Int))
/-- The identifier of peer t: its first byte is t, the rest 0. -/
def idc (t : Fin 8) : Array Value := #[.int .u8 (t.val : Int), .int .u8 0, .int .u8 0, .int .u8 0, .int .u8 0, .int .u8 0, .int .u8 0, .int .u8 0, .int .u8 0, .int .u8 0, .int .u8 0, .int .u8 0, .int .u8 0, .int .u8 0, .int .u8 0, .int .u8 0, .int .u8 0, .int .u8 0, .int .u8 0, .int .u8 0]
/-- The cells of peer t. -/
def pc (t : Fin 8) : Array Value := (idc t).push (.string (ad t))
/-- Which peer a byte names. -/
def tg (x : Int) : Fin 8 := Fin.ofNat 8 x.toNat
/-- A peer's zero cells. -/
def z27 : Array Value := #[.int .u8 0, .int .u8 0, .int .u8 0, .int .u8 0, .int .u8 0, .int .u8 0, .int .u8 0, .int .u8 0, .int .u8 0, .int .u8 0, .int .u8 0, .int .u8 0, .int .u8 0, .int .u8 0, .int .u8 0, .int .u8 0, .int .u8 0, .int .u8 0, .int .u8 0, .int .u8 0, .string ByteArray.empty]

theorem size_pc (t : Fin 8) : (pc t).size = 21 := id rfl
theorem size_idc (t : Fin 8) : (idc t).size = 20 := id rfl
theorem size_z27 : z27.size = 21 := id rfl
theorem tg_val {x : Int} (h0 : 0 ≤ x) : ((tg x).val : Int) = x % 8 := by
  unfold tg
  simp only [Fin.ofNat]
  omega

/-! ### Rows of cells in a block -/
/-- 'n' cells of block 'b' from offset 'o' on. -/
def row? (w : World) (b o n : Nat) : Option (Array Value) :=
  match w.heap[b]? with
  | some (.cells c _ _) => if o + n ≤ c.size then some (c.extract o (o + n)) else none
  | _ => none
/-- No cell of block b is frozen. -/
def loose (w : World) (b : Nat) : Bool :=
  match w.heap[b]? with
  | some (.cells _ _ f) => f.2 == 0
  | _ => false
/-- The cells 'cs' laid over block b from offset o on. -/
def setRow (w : World) (b o : Nat) (cs : Array Value) : World := w.setCells b o cs.toList

theorem row?_of_block {w w' : World} {b : Nat} (h : w'.heap[b]? = w.heap[b]?) (o n : Nat) : row? w' b o n = row? w b o n := by
  unfold row?; rw [h]
theorem loose_of_block {w w' : World} {b : Nat} (h : w'.heap[b]? = w.heap[b]?) : loose w' b = loose w b := by
  unfold loose; rw [h]
theorem row?_some {w : World} {b o n : Nat} {cs : Array Value} (h : row? w b o n = some cs) : ∃ c t f, w.heap[b]? = some (.cells c t f) ∧ o + n ≤ c.size ∧ cs = c.extract o (o + n) := by
  unfold row? at h
  split at h
  · rename_i c t f he
    split at h
    · rename_i hle
      simp only [Option.some.injEq] at h
      exact ⟨c, t, f, he, hle, h.symm⟩
    · cases h
  · cases h
theorem row?_size {w : World} {b o n : Nat} {cs : Array Value} (h : row? w b o n = some cs) : cs.size = n := by
  obtain ⟨c, t, f, _, hle, rfl⟩ := row?_some h
  simp; omega
theorem row?_lt {w : World} {b o n : Nat} {cs : Array Value} (h : row? w b o n = some cs) : b < w.heap.size := by
  obtain ⟨c, t, f, he, _, _⟩ := row?_some h
  exact (Array.getElem?_eq_some_iff.1 he).1
theorem row?_range {w : World} {b o n : Nat} {cs : Array Value} (h : row? w b o n = some cs) : w.rangeAt b o cs.toList := by
  obtain ⟨c, t, f, he, hle, rfl⟩ := row?_some h
  exact World.rangeAt_of_block he o n
theorem loose_frozen {w : World} {b : Nat} (h : loose w b = true) (o : Nat) : w.frozen? ⟨b, o, none⟩ = false := by
  unfold loose at h
  unfold World.frozen?
  split at h
  · rename_i c t f he
    simp only [he]
    simp at h
    simp [h]
  · cases h
theorem row?_there {w : World} {b o n : Nat} {cs : Array Value} (h : row? w b o n = some cs) (hl : loose w b = true) : w.there b o n := fun j hj => by
  refine ⟨?_, loose_frozen hl _⟩
  have hr := row?_range h
  have hs := row?_size h
  have : cs.toList[j]? = some (cs[j]'(by omega)) := by simp [hs, hj]
  rw [hr j _ this]; rfl

/-! ### Frame laws of rows -/
section
variable (w : World)
theorem row?_drew (b o n : Nat) : row? w.drew b o n = row? w b o n := rfl
theorem loose_drew (b : Nat) : loose w.drew b = loose w b := rfl
theorem row?_alloc_past (ob : Obj) (b o n : Nat) (h : b < w.heap.size) : row? (w.alloc ob) b o n = row? w b o n := row?_of_block (Below.heap_alloc _ _ _ h) o n
theorem loose_alloc_past (ob : Obj) (b : Nat) (h : b < w.heap.size) : loose (w.alloc ob) b = loose w b := loose_of_block (Below.heap_alloc _ _ _ h)
theorem row?_alloc_at (c : Array Value) (t : TypeId) (b o n : Nat) (h : b = w.heap.size) : row? (w.alloc (.cells c t)) b o n = if o + n ≤ c.size then some (c.extract o (o + n)) else none := by
  subst h
  unfold row?
  rw [heap_alloc_new]
theorem loose_alloc_at (c : Array Value) (t : TypeId) (b : Nat) (h : b = w.heap.size) : loose (w.alloc (.cells c t)) b = true := by
  subst h
  unfold loose
  rw [heap_alloc_new]
  rfl
end

/-! ### A row laid over a block -/
/-- The list 'vs' laid over the cells 'c' from 'o' on. -/
def splice : Array Value → Nat → List Value → Array Value
  | c, _, [] => c
  | c, o, v :: r => splice (c.setIfInBounds o v) (o + 1) r
theorem size_splice : ∀ (vs : List Value) (c : Array Value) (o : Nat), (splice c o vs).size = c.size
  | [], _, _ => rfl
  | v :: r, c, o => by rw [splice, size_splice r]; simp
theorem getElem?_splice : ∀ (vs : List Value) (c : Array Value) (o i : Nat), (splice c o vs)[i]? = if o ≤ i ∧ i < o + vs.length ∧ i < c.size then vs[i - o]? else c[i]?
  | [], c, o, i => by rw [splice, if_neg (by simp; omega)]
  | v :: r, c, o, i => by
    rw [splice, getElem?_splice r]
    simp only [Array.size_setIfInBounds, List.length_cons]
    by_cases h1 : o + 1 ≤ i ∧ i < o + 1 + r.length ∧ i < c.size
    · rw [if_pos h1, if_pos (by omega)]
      obtain ⟨d, rfl⟩ : ∃ d, i = o + 1 + d := ⟨i - (o + 1), by omega⟩
      rw [show o + 1 + d - (o + 1) = d from by omega, show o + 1 + d - o = d + 1 from by omega]
      rfl
    · rw [if_neg h1]
      by_cases h2 : i = o
      · subst h2
        by_cases h3 : i < c.size
        · rw [if_pos (by omega)]; simp [h3]
        · rw [if_neg (by omega)]; simp [h3]
      · rw [if_neg (by omega), Array.getElem?_setIfInBounds_ne (by omega)]
/-- What a row's store makes of an object. -/
def laidOver (o : Nat) (vs : List Value) : Obj → Obj
  | .cells c t f => .cells (splice c o vs) t f
  | ob => ob
theorem setCells_block (b : Nat) : ∀ (vs : List Value) (o : Nat) (w : World), (w.setCells b o vs).heap[b]? = (w.heap[b]?).map (laidOver o vs)
  | [], o, w => by
    rw [World.setCells]
    cases w.heap[b]? with
    | none => rfl
    | some ob => cases ob <;> rfl
  | v :: r, o, w => by
    rw [World.setCells, setCells_block b r]
    simp only [World.setCell, Array.getElem?_modify, if_true]
    cases w.heap[b]? with
    | none => rfl
    | some ob => cases ob <;> rfl
theorem setCells_other (b : Nat) {k : Nat} (hk : k ≠ b) : ∀ (vs : List Value) (o : Nat) (w : World), (w.setCells b o vs).heap[k]? = w.heap[k]?
  | [], _, _ => rfl
  | v :: r, o, w => by
    rw [World.setCells, setCells_other b hk r]
    exact Below.heap_setCell _ _ _ _ hk
theorem setCells_size (b : Nat) : ∀ (vs : List Value) (o : Nat) (w : World), (w.setCells b o vs).heap.size = w.heap.size
  | [], _, _ => rfl
  | v :: r, o, w => by rw [World.setCells, setCells_size b r]; simp [World.setCell]
theorem setCells_below (b : Nat) {B : Nat} (hB : B ≤ b) : ∀ (vs : List Value) (o : Nat) (a w : World), Below B a w → Below B a (w.setCells b o vs)
  | [], _, _, _, h => h
  | v :: r, o, a, w, h => by rw [World.setCells]; exact setCells_below b hB r _ _ _ (h.setCell hB _)

section
variable (w : World)
theorem size_setRow (b o : Nat) (cs : Array Value) : (setRow w b o cs).heap.size = w.heap.size := setCells_size _ _ _ _
theorem setRow_other (b o : Nat) (cs : Array Value) {k : Nat} (hk : k ≠ b) : (setRow w b o cs).heap[k]? = w.heap[k]? := setCells_other b hk _ _ _
theorem setRow_below {B : Nat} {a : World} (h : Below B a w) {b : Nat} (hB : B ≤ b) (o : Nat) (cs : Array Value) : Below B a (setRow w b o cs) := setCells_below b hB _ _ _ _ h
theorem loose_setRow (b o : Nat) (cs : Array Value) (b' : Nat) : loose (setRow w b o cs) b' = loose w b' := by
  by_cases h : b' = b
  · subst h
    unfold loose setRow
    rw [setCells_block]
    cases w.heap[b']? with
    | none => rfl
    | some ob => cases ob <;> rfl
  · exact loose_of_block (setRow_other w b o cs h)
theorem loose_setCell (a : Addr) (v : Value) (b' : Nat) : loose (w.setCell a v) b' = loose w b' := by
  by_cases h : b' = a.block
  · subst h
    unfold loose
    simp only [World.setCell, Array.getElem?_modify, if_true]
    cases w.heap[a.block]? with
    | none => rfl
    | some ob => cases ob <;> rfl
  · exact loose_of_block (Below.heap_setCell _ _ _ _ h)
/-- A row that overlaps one that was stored, but is not that one: not reckoned. -/
def rowIn (w : World) (b' o' : Nat) (cs : Array Value) (b o n : Nat) : Option (Array Value) := row? (setRow w b' o' cs) b o n
theorem row?_setRow_same (b o n : Nat) (cs : Array Value) (h : (row? w b o n).isSome = true) (hn : cs.size = n) : row? (setRow w b o cs) b o n = some cs := by
  obtain ⟨c0, h0⟩ := Option.isSome_iff_exists.1 h
  obtain ⟨c, t, f, he, hle, -⟩ := row?_some h0
  unfold row? setRow
  rw [setCells_block, he]
  simp only [Option.map_some, laidOver, size_splice]
  rw [if_pos hle]
  congr 1
  apply Array.ext_getElem?
  intro i
  rw [Array.getElem?_extract, size_splice, getElem?_splice]
  simp only [Array.length_toList, Array.getElem?_toList]
  by_cases hi : i < n
  · rw [if_pos (by omega), if_pos (by omega), show o + i - o = i from by omega]
  · rw [if_neg (by omega)]
    exact (Array.getElem?_eq_none (by omega)).symm
theorem row?_setRow (b' o' : Nat) (cs : Array Value) (b o n : Nat) : row? (setRow w b' o' cs) b o n = if b = b' ∧ o < o' + cs.size ∧ o' < o + n then rowIn w b' o' cs b o n else row? w b o n := by
  split
  · rfl
  · rename_i h
    by_cases hb : b = b'
    · subst hb
      unfold row? setRow
      rw [setCells_block]
      cases hq : w.heap[b]? with
      | none => rfl
      | some ob =>
        cases ob with
        | cells c t f =>
          simp only [Option.map_some, laidOver, size_splice]
          split
          · rename_i hle
            congr 1
            apply Array.ext_getElem?
            intro i
            rw [Array.getElem?_extract, Array.getElem?_extract, size_splice, getElem?_splice]
            split
            · rename_i hi
              rw [if_neg (by simp only [Array.length_toList]; omega)]
            · rfl
          · rfl
        | _ => rfl
    · exact row?_of_block (setRow_other w b' o' cs hb) o n
/-- A cell under a row that was stored: not reckoned. -/
def cellIn (w : World) (b' o' : Nat) (cs : Array Value) (b o : Nat) : Option Value := (setRow w b' o' cs).cell? ⟨b, o, none⟩
theorem cell?_setRow (b' o' : Nat) (cs : Array Value) (b o : Nat) : (setRow w b' o' cs).cell? ⟨b, o, none⟩ = if b = b' ∧ o' ≤ o ∧ o < o' + cs.size then cellIn w b' o' cs b o else w.cell? ⟨b, o, none⟩ := by
  split
  · rfl
  · rename_i h
    exact World.cell?_setCells_out b' cs.toList o' w ⟨b, o, none⟩ (fun hb _ => by
      simp only [Array.length_toList]
      have hb' : b = b' := hb
      show o < o' ∨ o' + cs.size ≤ o
      omega)
theorem frozen?_setRow (b' o' : Nat) (cs : Array Value) (a : Addr) : (setRow w b' o' cs).frozen? a = w.frozen? a := World.frozen?_setCells _ _ _ _ _
theorem row?_setCell (b' o' : Nat) (v : Value) (b o n : Nat) : row? (w.setCell ⟨b', o', none⟩ v) b o n = if b = b' ∧ o ≤ o' ∧ o' < o + n then (row? w b o n).map (fun cs => cs.setIfInBounds (o' - o) v) else row? w b o n := by
  by_cases hb : b = b'
  · subst hb
    unfold row?
    simp only [World.setCell, Array.getElem?_modify, if_true]
    cases hq : w.heap[b]? with
    | none => simp
    | some ob =>
      cases ob with
      | cells c t f =>
        simp only [Option.map_some, Option.isSome_none, Bool.false_eq_true, if_false, Array.size_setIfInBounds]
        by_cases hle : o + n ≤ c.size
        · simp only [if_pos hle, Option.map_some]
          split
          · rename_i hin
            congr 1
            apply Array.ext_getElem?
            intro i
            simp only [Array.getElem?_extract, Array.getElem?_setIfInBounds, Array.size_setIfInBounds, Array.size_extract, Nat.min_eq_left hle]
            by_cases hi : i < o + n - o
            · simp only [if_pos hi]
              by_cases e : o' = o + i
              · subst e
                rw [if_pos rfl, if_pos (by omega), if_pos (by omega), if_pos (by omega)]
              · rw [if_neg (by omega), if_neg (by omega)]
            · simp only [if_neg hi]
              rw [if_neg (by omega)]
          · rename_i hout
            congr 1
            apply Array.ext_getElem?
            intro i
            simp only [Array.getElem?_extract, Array.getElem?_setIfInBounds, Array.size_setIfInBounds, Nat.min_eq_left hle, Nat.add_sub_cancel_left]
            split
            · rename_i hi
              rw [if_neg (fun e => hout ⟨trivial, by omega, by omega⟩)]
            · rfl
        · simp [hle]
      | _ => simp
  · rw [if_neg (by omega)]
    exact row?_of_block (Below.heap_setCell _ _ _ _ hb) o n
theorem setRow_drew (b o : Nat) (cs : Array Value) : setRow w.drew b o cs = (setRow w b o cs).drew := by
  unfold setRow
  generalize cs.toList = vs
  induction vs generalizing w o with
  | nil => rfl
  | cons v r ih => rw [World.setCells, World.setCells, World.setCell_drew]; exact ih _ _
theorem setRow_alloc_past (ob : Obj) (b o : Nat) (cs : Array Value) (h : b < w.heap.size) : setRow (w.alloc ob) b o cs = (setRow w b o cs).alloc ob := by
  unfold setRow
  generalize cs.toList = vs
  induction vs generalizing w o with
  | nil => rfl
  | cons v r ih =>
    rw [World.setCells, World.setCells, World.setCell_alloc_past _ _ _ _ h]
    exact ih _ _ (by simpa [World.setCell] using h)
theorem splice_all (c cs : Array Value) (h : cs.size = c.size) : splice c 0 cs.toList = cs := by
  apply Array.ext_getElem?
  intro i
  rw [getElem?_splice]
  simp only [Array.length_toList, Nat.zero_le, Nat.zero_add, true_and, Nat.sub_zero, Array.getElem?_toList]
  by_cases hi : i < c.size
  · rw [if_pos (by omega)]
  · rw [if_neg (by omega), Array.getElem?_eq_none (by omega), Array.getElem?_eq_none (by omega)]
theorem setRow_alloc_at (c cs : Array Value) (t : TypeId) (b : Nat) (h : b = w.heap.size) (hs : cs.size = c.size) : setRow (w.alloc (.cells c t)) b 0 cs = w.alloc (.cells cs t) := by
  subst h
  have key : ∀ (vs : List Value) (c : Array Value) (o : Nat), (w.alloc (.cells c t)).setCells w.heap.size o vs = w.alloc (.cells (splice c o vs) t) := by
    intro vs
    induction vs with
    | nil => intro c o; rfl
    | cons v r ih =>
      intro c o
      rw [World.setCells, World.setCell_alloc_at _ _ _ _ _ rfl, ih]
      rfl
  rw [setRow, key, splice_all c cs hs]
end

/-! ### Behind a new block, the number's place decided by arithmetic -/
/-- Of the new block: its cell i. -/
def newCell (s : Nat) (ob : Obj) (n i : Nat) : Option Value := if n = s then (match ob with | .cells c _ _ => c[i]? | _ => none) else none
theorem newCell_cells (s : Nat) (c : Array Value) (t : TypeId) (f : Nat × Nat) (n i : Nat) : newCell s (.cells c t f) n i = if n = s then c[i]? else none := rfl
def newRow? (s : Nat) (ob : Obj) (b o n : Nat) : Option (Array Value) := if b = s then (match ob with | .cells c _ _ => if o + n ≤ c.size then some (c.extract o (o + n)) else none | _ => none) else none
theorem newRow?_cells (s : Nat) (c : Array Value) (t : TypeId) (f : Nat × Nat) (b o n : Nat) : newRow? s (.cells c t f) b o n = if b = s then (if o + n ≤ c.size then some (c.extract o (o + n)) else none) else none := rfl
/-- A store into the new block, or past it. -/
def setNew (w : World) (ob : Obj) (n i : Nat) (v : Value) : World := (w.alloc ob).setCell ⟨n, i, none⟩ v
def layNew (w : World) (ob : Obj) (b o : Nat) (cs : Array Value) : World := setRow (w.alloc ob) b o cs
section
variable (w : World)
theorem heap_alloc_ge (ob : Obj) {k : Nat} (h : w.heap.size < k) : (w.alloc ob).heap[k]? = none := by
  show (w.heap.push ob)[k]? = none
  rw [Array.getElem?_push, if_neg (by omega)]
  exact Array.getElem?_eq_none (by omega)
theorem cell?_alloc_ite (ob : Obj) (n i : Nat) : (w.alloc ob).cell? ⟨n, i, none⟩ = if n < w.heap.size then w.cell? ⟨n, i, none⟩ else newCell w.heap.size ob n i := by
  split
  · rename_i h; exact World.cell?_alloc_past ob n i h
  · rename_i h
    unfold newCell
    split
    · rename_i e
      subst e
      unfold World.cell?
      rw [heap_alloc_new]
      cases ob <;> rfl
    · rename_i e
      unfold World.cell?
      rw [heap_alloc_ge w ob (show w.heap.size < n by omega)]
theorem frozen?_alloc_ite (ob : Obj) (n i : Nat) (hc : ∀ c t f, ob = .cells c t f → f = (0, 0)) : (w.alloc ob).frozen? ⟨n, i, none⟩ = if n < w.heap.size then w.frozen? ⟨n, i, none⟩ else false := by
  split
  · rename_i h; exact World.frozen?_alloc_past ob n i h
  · rename_i h
    unfold World.frozen?
    by_cases e : n = w.heap.size
    · subst e
      rw [heap_alloc_new]
      cases ob with
      | cells c t f => rw [hc c t f rfl]; simp
      | _ => rfl
    · rw [heap_alloc_ge w ob (show w.heap.size < n by omega)]
theorem frozen?_alloc_ite' (c : Array Value) (t : TypeId) (n i : Nat) : (w.alloc (.cells c t)).frozen? ⟨n, i, none⟩ = if n < w.heap.size then w.frozen? ⟨n, i, none⟩ else false := frozen?_alloc_ite w _ n i (fun _ _ _ e => by cases e; rfl)
theorem row?_alloc_ite (ob : Obj) (b o n : Nat) : row? (w.alloc ob) b o n = if b < w.heap.size then row? w b o n else newRow? w.heap.size ob b o n := by
  split
  · rename_i h; exact row?_alloc_past w ob b o n h
  · rename_i h
    unfold newRow?
    split
    · rename_i e
      subst e
      unfold row?
      rw [heap_alloc_new]
      cases ob <;> rfl
    · rename_i e
      unfold row?
      rw [heap_alloc_ge w ob (show w.heap.size < b by omega)]
theorem loose_alloc_ite (c : Array Value) (t : TypeId) (b : Nat) : loose (w.alloc (.cells c t)) b = if b < w.heap.size then loose w b else decide (b = w.heap.size) := by
  split
  · rename_i h; exact loose_alloc_past w _ b h
  · rename_i h
    by_cases e : b = w.heap.size
    · rw [loose_alloc_at w c t b e, e]; simp
    · unfold loose
      rw [heap_alloc_ge w _ (show w.heap.size < b by omega)]
      simp [e]
theorem setCell_alloc_ite (ob : Obj) (n i : Nat) (v : Value) : (w.alloc ob).setCell ⟨n, i, none⟩ v = if n < w.heap.size then (w.setCell ⟨n, i, none⟩ v).alloc ob else setNew w ob n i v := by
  split
  · rename_i h; exact World.setCell_alloc_past ob n i v h
  · rfl
theorem setNew_cells (c : Array Value) (t : TypeId) (n i : Nat) (v : Value) (h : n = w.heap.size) : setNew w (.cells c t) n i v = w.alloc (.cells (c.setIfInBounds i v) t) := World.setCell_alloc_at c t n i v h
theorem setRow_alloc_ite (ob : Obj) (b o : Nat) (cs : Array Value) : setRow (w.alloc ob) b o cs = if b < w.heap.size then (setRow w b o cs).alloc ob else layNew w ob b o cs := by
  split
  · rename_i h; exact setRow_alloc_past w ob b o cs h
  · rfl
theorem layNew_cells (c cs : Array Value) (t : TypeId) (b : Nat) (h : b = w.heap.size) (hs : cs.size = c.size) : layNew w (.cells c t) b 0 cs = w.alloc (.cells cs t) := setRow_alloc_at w c cs t b h hs
end
end Go.Proofs.Ybulkbsys
