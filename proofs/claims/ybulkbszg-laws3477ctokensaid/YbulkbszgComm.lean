/-
  SIGNALPOST: regions that hold a communication of one goroutine, as laws of the walk.
-/
import Derived.Conc.LoneCalls
import Derived.Conc.LoneSelect
import Derived.Conc.LoneSelectN
import Derived.WalkKit
namespace Go.Proofs.Ybulkbszg
open Go.Conc Go.RowKit
theorem stepG_comm_any {P : Program} {b : Frame} {a : Act} {k : List Item} {cs : List Frame} {w : World} {ops : Array Oper} {i : Nat} {rest : List Nat} {o : Oper} {cases : Array CommCase} {blocking : Bool} {shape : CommShape} {w' : World} (ho : ops[i]? = some o) (hw : Region.wanted o (yielded ops a.tmps) = true)
    (hr : (execOp a.eval o).run P w = .ok (.comm cases blocking shape) w') :
    ∃ es, stepG P true (G (b.at a (.inRegion ops (i :: rest) :: k)) cs) w = .comm (G (b.at a (.inRegion ops (i :: rest) :: k)) cs) cases blocking shape w' es := by
  rw [stepG_oper ho hw]
  simp [stepG.apply, hr, G, Frame.at, GStep.after]
theorem step_value_any {P : Program} {b : Frame} {a : Act} {k : List Item} {cs : List Frame} {w : World} {ops : Array Oper} {i : Nat} {rest : List Nat} {o : Oper} {v : Value} {w' : World} (ho : ops[i]? = some o) (hw : Region.wanted o (yielded ops a.tmps) = true)
    (hr : (execOp a.eval o).run P w = .ok (.value v) w') :
    step P (lone (b.at a (.inRegion ops (i :: rest) :: k)) cs w) = .next (lone (b.at (a.put o.dst v) (.inRegion ops rest :: k)) cs w') := by
  have hfin : (b.at a (.inRegion ops (i :: rest) :: k)).finish v = b.at (a.put o.dst v) (.inRegion ops rest :: k) := by rw [Frame.finish_at, ho]; rfl
  refine step_lone_go ?_
  rw [stepG_op ho hw, ← hfin]
  simp [stepG.apply, hr, Frame.at, GStep.after]
theorem wanted_plain {o : Oper} (h : o.guard = none) (y : _) : Region.wanted o y = true := by
  simp [Region.wanted, h]
/-- A region of five plain operations, the last of them a receive from a buffer that holds something. -/
theorem wp_region_recv {P : Program} {id : Nat} {o0 o1 o2 o3 o4 : Oper} {Q : Exit → Act → World → Prop} {a : Act} {w : World} (c : Nat) {z : Value} {cap s r : Nat} {buf : Array Value} (v0 v1 v2 v3 : Value)
    (g0 : o0.guard = none) (g1 : o1.guard = none) (g2 : o2.guard = none) (g3 : o3.guard = none) (g4 : o4.guard = none)
    (r0 : (execOp a.eval o0).run P w = .ok (.value v0) w)
    (r1 : (execOp (a.put o0.dst v0).eval o1).run P w = .ok (.value v1) w)
    (r2 : (execOp ((a.put o0.dst v0).put o1.dst v1).eval o2).run P w = .ok (.value v2) w)
    (r3 : (execOp (((a.put o0.dst v0).put o1.dst v1).put o2.dst v2).eval o3).run P w = .ok (.value v3) w)
    (r4 : (execOp ((((a.put o0.dst v0).put o1.dst v1).put o2.dst v2).put o3.dst v3).eval o4).run P w = .ok (.comm #[rcase c z] true (.recv false)) w)
    (hc : w.heap[c]? = some (.chan cap buf false s r false)) (hs : 0 < buf.size)
    (h : Q .normal (((((a.put o0.dst v0).put o1.dst v1).put o2.dst v2).put o3.dst v3).put o4.dst (buf.getD 0 undef)) (w.setChan c cap (buf.extract 1 buf.size) false s (r + 1) false)) :
    (Code.region id #[o0, o1, o2, o3, o4] false).wp P Q a w := by
  intro b k cs
  refine ⟨.normal, _, _, h, ?_⟩
  refine Steps.head step_region ?_
  refine Steps.head (step_value_any (o := o0) rfl (wanted_plain g0 _) r0) ?_
  refine Steps.head (step_value_any (o := o1) rfl (wanted_plain g1 _) r1) ?_
  refine Steps.head (step_value_any (o := o2) rfl (wanted_plain g2 _) r2) ?_
  refine Steps.head (step_value_any (o := o3) rfl (wanted_plain g3 _) r3) ?_
  obtain ⟨es, he⟩ := stepG_comm_any (b := b) (k := k) (cs := cs) (ops := #[o0, o1, o2, o3, o4]) (i := 4) (rest := []) (o := o4) rfl (wanted_plain g4 _) r4
  refine Steps.head (step_lone_recv_buf false he hc hs) ?_
  rw [Frame.finish_at]
  exact .one step_region_end
/-- A region whose first operation is a select of one send with a default; the channel is open. -/
theorem wp_region_trysend {P : Program} {id : Nat} {o0 o1 o2 : Oper} {Q : Exit → Act → World → Prop} {a : Act} {w : World} (c : Nat) {z v : Value} {cap s r : Nat} {buf : Array Value}
    (g0 : o0.guard = none)
    (r0 : (execOp a.eval o0).run P w = .ok (.comm #[scase c v z] false .select) w)
    (hc : w.heap[c]? = some (.chan cap buf false s r false))
    (hroom : buf.size < cap → wpList P #[o0, o1, o2] Q [o1, o2] (a.put o0.dst (.tuple #[goInt 0, .bool false])) (w.setChan c cap (buf.push v) false (s + 1) r false))
    (hfull : cap ≤ buf.size → wpList P #[o0, o1, o2] Q [o1, o2] (a.put o0.dst (.tuple #[goInt (-1), .bool false])) w) :
    (Code.region id #[o0, o1, o2] false).wp P Q a w := by
  intro b k cs
  obtain ⟨es, he⟩ := stepG_comm_any (b := b) (k := k) (cs := cs) (ops := #[o0, o1, o2]) (i := 0) (rest := [1, 2]) (o := o0) rfl (wanted_plain g0 _) r0
  have hl : wpOps P #[o0, o1, o2] Q [1, 2] = wpList P #[o0, o1, o2] Q [o1, o2] := wpOps_eq_wpList [o1, o2] 1 (fun j => by rcases j with _ | _ | _ | j <;> simp <;> omega)
  rw [← hl] at hroom hfull
  by_cases hr : buf.size < cap
  · obtain ⟨e, a', w', hq, har⟩ := wp_ops _ _ _ (hroom hr) b k cs
    refine ⟨e, a', w', hq, .of_steps (Steps.head step_region ?_) har⟩
    have := step_lone_select_send_room he hc hr
    rw [Frame.finish_at] at this
    exact .one this
  · obtain ⟨e, a', w', hq, har⟩ := wp_ops _ _ _ (hfull (by omega)) b k cs
    refine ⟨e, a', w', hq, .of_steps (Steps.head step_region ?_) har⟩
    have := step_lone_select_send_full he hc (by omega)
    rw [Frame.finish_at] at this
    exact .one this
end Go.Proofs.Ybulkbszg
