import Derived.Test.YbulkbsxcFromWalk
import Derived.WalkKit
import Derived.Below
namespace Go.Proofs.Ybulkbsxc.seqWalk
open Go.RowKit Go.Proofs.Ybulkbsxc.fromWalk
set_option linter.unusedVariables false

/-- A slice's element at 'i', for every i below the length: it is there, below the heap's end, a number within bounds. -/
def Reads (w : World) (a : Option Addr) (len : Nat) (k : IntKind) (lo hi : Int) : Prop :=
  ∀ i, i < len → ∃ b off n, a = some ⟨b, off, none⟩ ∧ b < w.heap.size ∧ w.cell? ⟨b, off + i, none⟩ = some (.int k n) ∧ lo ≤ n ∧ n ≤ hi

set_option maxRecDepth 100000 in
set_option maxHeartbeats 1000000 in
theorem seq (a0 a1 a2 : Int) (a3 : Option Addr) (len3 cap3 : Nat) (a4 : Option Addr) (len4 cap4 : Nat) (a5 : Option Addr) (len5 cap5 : Nat) (w : World)
    (l3 : len3 ≤ maxLen) (l4 : len4 ≤ maxLen) (l5 : len5 ≤ maxLen)
    (r3 : Reads w a3 len3 .u8 0 255) (r4 : Reads w a4 len4 .u8 0 255) (r5 : Reads w a5 len5 .u64 0 18446744073709551615) :
    Calls Yba.prog 4 #[.int .u64 a0, .int .u32 a1, .int .u64 a2, .slice a3 len3 cap3, .slice a4 len4 cap4, .slice a5 len5 cap5] w fun e w' => e = .returned (.bool true) ∧ Below w.heap.size w w' := by
  unfold maxLen at l3 l4 l5
  by_cases hbig : 1024 < len3
  · go_enter Yba.func4, Yba.ntmps4
    go_wp2
    go_ret
    exact ⟨rfl, Below.refl _ _⟩
  · go_enter Yba.func4, Yba.ntmps4
    go_wp2
    go_loopw [14, 15, 16, 17] (fun mv mm ms i wr => ∃ (k : Nat) (v m s : Int), k ≤ len3 ∧ i = .int .i64 k ∧ mv = .int .u64 v ∧ mm = .int .u32 m ∧ ms = .int .u64 s ∧ Below w.heap.size w wr ∧ wr.heap.size = w.heap.size + 1 ∧
        Held wr w.heap.size v m s) (fun _ _ _ i _ => len3 - (intOf i).toNat)
    case atStart =>
      refine ⟨0, a0, a1, a2, Nat.zero_le _, rfl, rfl, rfl, rfl, (Below.refl _ _).alloc (Nat.le_refl _) _, by simp, ?_⟩
      simp [Held, go_sem]
    case round =>
      obtain ⟨k, v, m, s, hk, rfl, rfl, rfl, rfl, hb, hz, hh⟩ := hrel
      by_cases hlt : k < len3
      · obtain ⟨b3, o3, x3, rfl, hlt3, g3', lo3, hi3⟩ := r3 k hlt
        have g3 := (hb.cell (p := ⟨b3, o3 + k, none⟩) hlt3).trans g3'
        clear r3 g3'
        by_cases h4 : k < len4
        · obtain ⟨b4, o4, x4, rfl, hlt4, g4', lo4, hi4⟩ := r4 k h4
          have g4 := (hb.cell (p := ⟨b4, o4 + k, none⟩) hlt4).trans g4'
          clear r4 g4'
          by_cases h5 : k < len5
          · obtain ⟨b5, o5, x5, rfl, hlt5, g5', lo5, hi5⟩ := r5 k h5
            have g5 := (hb.cell (p := ⟨b5, o5 + k, none⟩) hlt5).trans g5'
            clear r5 g5'
            by_cases e1 : v = x3 % 3 ∧ m = x4 % 3
            · obtain ⟨e1, e2⟩ := e1
              subst e1
              subst e2
              obtain ⟨c0, c1, c2, f0, f1, f2⟩ := id hh
              have H : Hid (Held wr w.heap.size (x3 % 3) (x4 % 3) s) := hh
              clear hh
              go_wp2_with (go_at_call 5; refine (keep w.heap.size 0 _ _ s _ _ c0 c1 c2).mono ?_; rintro e w' ⟨rfl, rfl⟩)
              go_roundw
              case rel => exact ⟨k + 1, _, _, s, by omega, by go_num, rfl, rfl, rfl, hb, hz, H.out⟩
              case measure => simp [intOf]; omega
            · by_cases e2 : v = x3 % 3
              · have e3 : (m != x4 % 3) = true := by simp; exact fun e => e1 ⟨e2, e⟩
                have H : Hid (Held wr w.heap.size v m s ∧ ¬ (v = x3 % 3 ∧ m = x4 % 3)) := ⟨hh, e1⟩
                clear hh e1
                subst e2
                go_wp2_with (go_at_call 5; refine (anew w.heap.size w.heap.size (Nat.le_refl _) _ m s _ _ _ wr H.out.1 H.out.2).mono ?_; rintro e w' ⟨rfl, ⟨c0, c1, c2, f0, f1, f2⟩, hb2, hz2⟩)
                go_roundw
                case rel => exact ⟨k + 1, _, _, _, by omega, by go_num, rfl, rfl, rfl, hb.trans hb2, hz2.trans hz, ⟨c0, c1, c2, f0, f1, f2⟩⟩
                case measure => simp [intOf]; omega
              · have H : Hid (Held wr w.heap.size v m s ∧ ¬ (v = x3 % 3 ∧ m = x4 % 3)) := ⟨hh, e1⟩
                clear hh e1
                go_wp2_with (go_at_call 5; refine (anew w.heap.size w.heap.size (Nat.le_refl _) v m s _ _ _ wr H.out.1 H.out.2).mono ?_; rintro e w' ⟨rfl, ⟨c0, c1, c2, f0, f1, f2⟩, hb2, hz2⟩)
                go_roundw
                case rel => exact ⟨k + 1, _, _, _, by omega, by go_num, rfl, rfl, rfl, hb.trans hb2, hz2.trans hz, ⟨c0, c1, c2, f0, f1, f2⟩⟩
                case measure => simp [intOf]; omega
          · 
            by_cases e1 : v = x3 % 3 ∧ m = x4 % 3
            · obtain ⟨e1, e2⟩ := e1
              subst e1
              subst e2
              obtain ⟨c0, c1, c2, f0, f1, f2⟩ := id hh
              have H : Hid (Held wr w.heap.size (x3 % 3) (x4 % 3) s) := hh
              clear hh
              go_wp2_with (go_at_call 5; refine (keep w.heap.size 0 _ _ s _ _ c0 c1 c2).mono ?_; rintro e w' ⟨rfl, rfl⟩)
              go_roundw
              case rel => exact ⟨k + 1, _, _, s, by omega, by go_num, rfl, rfl, rfl, hb, hz, H.out⟩
              case measure => simp [intOf]; omega
            · by_cases e2 : v = x3 % 3
              · have e3 : (m != x4 % 3) = true := by simp; exact fun e => e1 ⟨e2, e⟩
                have H : Hid (Held wr w.heap.size v m s ∧ ¬ (v = x3 % 3 ∧ m = x4 % 3)) := ⟨hh, e1⟩
                clear hh e1
                subst e2
                go_wp2_with (go_at_call 5; refine (anew w.heap.size w.heap.size (Nat.le_refl _) _ m s _ _ _ wr H.out.1 H.out.2).mono ?_; rintro e w' ⟨rfl, ⟨c0, c1, c2, f0, f1, f2⟩, hb2, hz2⟩)
                go_roundw
                case rel => exact ⟨k + 1, _, _, _, by omega, by go_num, rfl, rfl, rfl, hb.trans hb2, hz2.trans hz, ⟨c0, c1, c2, f0, f1, f2⟩⟩
                case measure => simp [intOf]; omega
              · have H : Hid (Held wr w.heap.size v m s ∧ ¬ (v = x3 % 3 ∧ m = x4 % 3)) := ⟨hh, e1⟩
                clear hh e1
                go_wp2_with (go_at_call 5; refine (anew w.heap.size w.heap.size (Nat.le_refl _) v m s _ _ _ wr H.out.1 H.out.2).mono ?_; rintro e w' ⟨rfl, ⟨c0, c1, c2, f0, f1, f2⟩, hb2, hz2⟩)
                go_roundw
                case rel => exact ⟨k + 1, _, _, _, by omega, by go_num, rfl, rfl, rfl, hb.trans hb2, hz2.trans hz, ⟨c0, c1, c2, f0, f1, f2⟩⟩
                case measure => simp [intOf]; omega
        · by_cases h5 : k < len5
          · obtain ⟨b5, o5, x5, rfl, hlt5, g5', lo5, hi5⟩ := r5 k h5
            have g5 := (hb.cell (p := ⟨b5, o5 + k, none⟩) hlt5).trans g5'
            clear r5 g5'
            by_cases e1 : v = x3 % 3 ∧ m = 0
            · obtain ⟨e1, e2⟩ := e1
              subst e1
              subst e2
              obtain ⟨c0, c1, c2, f0, f1, f2⟩ := id hh
              have H : Hid (Held wr w.heap.size (x3 % 3) (0) s) := hh
              clear hh
              go_wp2_with (go_at_call 5; refine (keep w.heap.size 0 _ _ s _ _ c0 c1 c2).mono ?_; rintro e w' ⟨rfl, rfl⟩)
              go_roundw
              case rel => exact ⟨k + 1, _, _, s, by omega, by go_num, rfl, rfl, rfl, hb, hz, H.out⟩
              case measure => simp [intOf]; omega
            · by_cases e2 : v = x3 % 3
              · have e3 : (m != 0) = true := by simp; exact fun e => e1 ⟨e2, e⟩
                have H : Hid (Held wr w.heap.size v m s ∧ ¬ (v = x3 % 3 ∧ m = 0)) := ⟨hh, e1⟩
                clear hh e1
                subst e2
                go_wp2_with (go_at_call 5; refine (anew w.heap.size w.heap.size (Nat.le_refl _) _ m s _ _ _ wr H.out.1 H.out.2).mono ?_; rintro e w' ⟨rfl, ⟨c0, c1, c2, f0, f1, f2⟩, hb2, hz2⟩)
                go_roundw
                case rel => exact ⟨k + 1, _, _, _, by omega, by go_num, rfl, rfl, rfl, hb.trans hb2, hz2.trans hz, ⟨c0, c1, c2, f0, f1, f2⟩⟩
                case measure => simp [intOf]; omega
              · have H : Hid (Held wr w.heap.size v m s ∧ ¬ (v = x3 % 3 ∧ m = 0)) := ⟨hh, e1⟩
                clear hh e1
                go_wp2_with (go_at_call 5; refine (anew w.heap.size w.heap.size (Nat.le_refl _) v m s _ _ _ wr H.out.1 H.out.2).mono ?_; rintro e w' ⟨rfl, ⟨c0, c1, c2, f0, f1, f2⟩, hb2, hz2⟩)
                go_roundw
                case rel => exact ⟨k + 1, _, _, _, by omega, by go_num, rfl, rfl, rfl, hb.trans hb2, hz2.trans hz, ⟨c0, c1, c2, f0, f1, f2⟩⟩
                case measure => simp [intOf]; omega
          · 
            by_cases e1 : v = x3 % 3 ∧ m = 0
            · obtain ⟨e1, e2⟩ := e1
              subst e1
              subst e2
              obtain ⟨c0, c1, c2, f0, f1, f2⟩ := id hh
              have H : Hid (Held wr w.heap.size (x3 % 3) (0) s) := hh
              clear hh
              go_wp2_with (go_at_call 5; refine (keep w.heap.size 0 _ _ s _ _ c0 c1 c2).mono ?_; rintro e w' ⟨rfl, rfl⟩)
              go_roundw
              case rel => exact ⟨k + 1, _, _, s, by omega, by go_num, rfl, rfl, rfl, hb, hz, H.out⟩
              case measure => simp [intOf]; omega
            · by_cases e2 : v = x3 % 3
              · have e3 : (m != 0) = true := by simp; exact fun e => e1 ⟨e2, e⟩
                have H : Hid (Held wr w.heap.size v m s ∧ ¬ (v = x3 % 3 ∧ m = 0)) := ⟨hh, e1⟩
                clear hh e1
                subst e2
                go_wp2_with (go_at_call 5; refine (anew w.heap.size w.heap.size (Nat.le_refl _) _ m s _ _ _ wr H.out.1 H.out.2).mono ?_; rintro e w' ⟨rfl, ⟨c0, c1, c2, f0, f1, f2⟩, hb2, hz2⟩)
                go_roundw
                case rel => exact ⟨k + 1, _, _, _, by omega, by go_num, rfl, rfl, rfl, hb.trans hb2, hz2.trans hz, ⟨c0, c1, c2, f0, f1, f2⟩⟩
                case measure => simp [intOf]; omega
              · have H : Hid (Held wr w.heap.size v m s ∧ ¬ (v = x3 % 3 ∧ m = 0)) := ⟨hh, e1⟩
                clear hh e1
                go_wp2_with (go_at_call 5; refine (anew w.heap.size w.heap.size (Nat.le_refl _) v m s _ _ _ wr H.out.1 H.out.2).mono ?_; rintro e w' ⟨rfl, ⟨c0, c1, c2, f0, f1, f2⟩, hb2, hz2⟩)
                go_roundw
                case rel => exact ⟨k + 1, _, _, _, by omega, by go_num, rfl, rfl, rfl, hb.trans hb2, hz2.trans hz, ⟨c0, c1, c2, f0, f1, f2⟩⟩
                case measure => simp [intOf]; omega
      · go_wp2
        go_ret
        exact ⟨rfl, hb⟩
end Go.Proofs.Ybulkbsxc.seqWalk
