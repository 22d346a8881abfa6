/-
  TIDEWATCH: the model of the counts, and a map that agrees with it (no Go in sight but the map's own views).
-/
import Derived.Test.YbulkbtaiChecked
import Derived.Maps.OwnSet
import Derived.KernelRfl
import Derived.WalkKit
import Derived.WalkSpells
namespace Go.Proofs.Ybulkbtai
open Go.RowKit Go.Maps
/-- The model with the count of key j turned to v. -/
def upd (m : Nat → Int) (j : Nat) (v : Int) (i : Nat) : Int := if i = j then v else m i
theorem upd_same (m : Nat → Int) (j : Nat) (v : Int) : upd m j v j = v := by simp [upd]
theorem upd_other (m : Nat → Int) {j i : Nat} (v : Int) (h : i ≠ j) : upd m j v i = m i := by simp [upd, h]
/-- How many of the first k keys hold something. -/
def cntTo (m : Nat → Int) : Nat → Nat
  | 0 => 0
  | k + 1 => cntTo m k + (if m k != 0 then 1 else 0)
theorem cntTo_le (m : Nat → Int) : ∀ k, cntTo m k ≤ k
  | 0 => Nat.le_refl _
  | k + 1 => by
    have := cntTo_le m k
    simp only [cntTo]
    split <;> omega
theorem cntTo_low (m : Nat → Int) (j : Nat) (v : Int) : ∀ k, k ≤ j → cntTo (upd m j v) k = cntTo m k
  | 0, _ => rfl
  | k + 1, h => by
    simp only [cntTo]
    rw [cntTo_low m j v k (by omega), upd_other m v (by omega)]
theorem cntTo_upd (m : Nat → Int) (j : Nat) (v : Int) : ∀ k, j < k → cntTo (upd m j v) k + (if m j != 0 then 1 else 0) = cntTo m k + (if v != 0 then 1 else 0)
  | 0, h => by omega
  | k + 1, h => by
    simp only [cntTo]
    by_cases e : j = k
    · subst e
      rw [cntTo_low m j v j (Nat.le_refl _), upd_same]
      omega
    · have := cntTo_upd m j v k (by omega)
      rw [upd_other m v (by omega)]
      omega
theorem cntTo_zero (m : Nat → Int) : ∀ k, (∀ j, j < k → m j = 0) → cntTo m k = 0
  | 0, _ => rfl
  | k + 1, h => by
    simp only [cntTo]
    rw [cntTo_zero m k (fun j hj => h j (by omega)), h k (by omega)]
    simp
theorem law3 : Keyed Yba.prog 3 := int_keyed Yba.underlying3
theorem zero3 (w : World) : (zeroValue 3).run Yba.prog w = .ok (.int .i64 0) w := by kernel_rfl
/-- The eight keys. -/
def key (j : Nat) : Lit := .int .i64 j
theorem isKey (j : Nat) : WideAt.IsKeyLit (key j) := True.intro
theorem key_ne {i j : Nat} (h : i ≠ j) : key i ≠ key j := by
  simp only [key, ne_eq, Lit.int.injEq, true_and]
  omega
theorem wf_small {x : Int} (h0 : -100000 ≤ x) (h1 : x ≤ 100000) : (Lit.int .i64 x).wf = true := WalkArith.wf_i64 (by omega)
theorem keyOf_key {j : Nat} (h : j < 8) : keyOf Yba.prog 3 (.int .i64 j) = some (key j) := keyOf_int_mk Yba.underlying3 (wf_small (by omega) (by omega))
/-- The datum of the map agrees with the model: each key's count, no key at nought. -/
structure Agree (D : DataW Unit) (m : Nat → Int) : Prop where
  at_ : ∀ j, j < 8 → D.atKey (key j) (.lit (.int .i64 0)) = .lit (.int .i64 (m j))
  has_ : ∀ j, j < 8 → Maps.has D (key j) = (m j != 0)
  size_ : Maps.size D = cntTo m 8
  tidy : Tidy D
theorem agree_empty {m : Nat → Int} (h : ∀ j, j < 8 → m j = 0) : Agree (.map []) m where
  at_ j hj := by rw [h j hj]; rfl
  has_ j hj := by rw [h j hj]; rfl
  size_ := by rw [cntTo_zero m 8 h]; rfl
  tidy := tidy_empty
theorem Agree.put {D : DataW Unit} {m : Nat → Int} (h : Agree D m) {j : Nat} (hj : j < 8) {v : Int} (hv : v ≠ 0) : Agree (D.put (key j) (.lit (.int .i64 v))) (upd m j v) where
  at_ i hi := by
    by_cases e : i = j
    · subst e; rw [atKey_put_same h.tidy.isMap (isKey i), upd_same]
    · rw [atKey_put_other (key_ne e), upd_other m v e]; exact h.at_ i hi
  has_ i hi := by
    by_cases e : i = j
    · subst e; rw [has_put_same h.tidy.isMap (isKey i), upd_same]; simpa using hv
    · rw [has_put_other (key_ne e), upd_other m v e]; exact h.has_ i hi
  size_ := by
    have := cntTo_upd m j v 8 hj
    rw [size_put h.tidy, h.has_ j hj, h.size_]
    have hv' : (v != 0) = true := by simpa using hv
    rw [hv'] at this
    cases hm : (m j != 0) <;> rw [hm] at this <;> simp at this ⊢ <;> omega
  tidy := h.tidy.put (isKey j) _
/-- A key whose count came to nought, and was struck. -/
theorem Agree.strike {D : DataW Unit} {m : Nat → Int} (h : Agree D m) {j : Nat} (hj : j < 8) (d : DataW Unit) (hm : m j ≠ 0) : Agree ((D.put (key j) d).del (key j)) (upd m j 0) where
  at_ i hi := by
    by_cases e : i = j
    · subst e; rw [atKey_del_same, upd_same]
    · rw [atKey_del_other (key_ne e), atKey_put_other (key_ne e), upd_other m 0 e]; exact h.at_ i hi
  has_ i hi := by
    by_cases e : i = j
    · subst e; rw [has_del_same, upd_same]; rfl
    · rw [has_del_other (key_ne e), has_put_other (key_ne e), upd_other m 0 e]; exact h.has_ i hi
  size_ := by
    have h1 := cntTo_upd m j 0 8 hj
    have h2 := size_del (k := key j) (h.tidy.put (isKey j) d)
    have hm' : (m j != 0) = true := by simpa using hm
    rw [has_put_same h.tidy.isMap (isKey j), size_put h.tidy, h.has_ j hj, hm', h.size_] at h2
    rw [hm'] at h1
    simp at h1 h2
    omega
  tidy := (h.tidy.put (isKey j) d).del _
end Go.Proofs.Ybulkbtai
