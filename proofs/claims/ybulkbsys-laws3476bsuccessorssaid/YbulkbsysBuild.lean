/-
  RINGHOP: the cells of a node that has just been made: what the composite literal in newNode lays.
-/
import Derived.Test.YbulkbsysOps
namespace Go.Proofs.Ybulkbsys
open Go.RowKit

/-- What a run hands over, if it is a row. -/
def rowOf : Result Value → Array Value
  | .ok (.agg c) _ => c
  | _ => #[]
/-- What the fields hold that are asked after: a sift of the cells. -/
def sift (C : Array Value) : List (Option Value) := [C[22]?, C[23]?, C[27]?, C[29]?, C[30]?, C[31]?, C[35]?, C[3396]?, C[3397]?, C[3398]?, C[3399]?, C[3400]?, C[3404]?, C[3407]?]

theorem build49 (s : Fin 8) (per mx rp : Int) (M : Nat) : ∃ C : Array Value, C.size = 3410 ∧ C.extract 0 21 = pc s ∧
    sift C = [some (.int .i64 mx), some (.int .i64 rp), some (.int .i32 0), some (.map (some M)), some (.bool false), some (.bool false), some (.slice none 0 0), some (.int .i64 0), some (.int .i64 0), some (.pointer none), some (.slice none 0 0), some (.int .i64 0), some (.int .i64 0), some (.int .i64 0)] ∧
    ∀ w, (bdRow 49 #[(0, .agg (pc s)), (1, .int .i64 per), (2, .int .i64 mx), (3, .int .i64 rp), (7, .map (some M))]).run Yba.prog w = .ok (.agg C) w :=
  ⟨rowOf ((bdRow 49 #[(0, .agg (pc s)), (1, .int .i64 per), (2, .int .i64 mx), (3, .int .i64 rp), (7, .map (some M))]).run Yba.prog default), by kernel_rfl, by kernel_rfl, by kernel_rfl, fun w => by kernel_rfl⟩
end Go.Proofs.Ybulkbsys
