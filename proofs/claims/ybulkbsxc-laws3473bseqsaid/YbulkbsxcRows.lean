/-
  No cell of these rows narrows 'for every input' (looked for: loops, veiled, ifaces, maps, wideKeys, modest, calm, conditions, laid).
  DERIVED. THE GIVEN ROWS OF THIS SEAT. 2 by the template 'for every input the law returns true; each argument reads behind the call as it read before'; 0 by the template 'total and deterministic' (their statements: YbulkbsxcTotals.lean).
  GIVEN WITH THE SEED: the statements are not yours to turn. If you find one false, say at which input.
  Laid BY PROGRAM, IN A SANDBOX (cutbox-rows.mjs): the forced cells as the released guide's own fill.sh prints them over the translation 17f1a4dd81321186… (all of the seat's roots in one cut). By AI agents, Wed Nov 11 2026. No macro, syntax, notation, axiom, sorry.
-/
import Derived.Test.YbulkbsxcChecked
import GoSem.Claim
import GoSem.ClaimJoined
import GoSem.ClaimMapViews
import Derived.JoinedTies
import Derived.KernelRfl
namespace Go.Proofs.Ybulkbsxc
/- THE CELL 'sum', in the pinned program and in every row, IS THE sha256 OF THE DUMP (.gsa) THAT YbulkbsxcProg.lean LOADS. Nothing in Lean hashes anything: it is a label: what it is worth is what the hold of that sum in a sandbox is worth. -/
noncomputable def Yba.pinned : Pinned := { name := "ybulkbsxc", sum := "17f1a4dd813211867394eb1ace03ffff561f86a9ec892e796822c59984d8c38c", checked := Yba.checked }
namespace Rows
def none {H : Type} : Left H := { results := [], args := [] }

/-- 'cordon.LawS3473BFrom': WHATEVER THE INPUT: true; the input reads as it did. -/
def lawS3473BFromSpec : ChangeSpec := { name := "lawS3473BFrom", fn := fun _ => fun
  | [d1, d2, d3, d4, d5, d6] => { results := [.lit (.bool true)], args := [d1, d2, d3, d4, d5, d6] }
  | _ => none }
def lawS3473BFromRow : OpenClaim := { program := "ybulkbsxc", sum := "17f1a4dd813211867394eb1ace03ffff561f86a9ec892e796822c59984d8c38c", func := "example.com/cordon/cordon.LawS3473BFrom", spec := "lawS3473BFrom", apart := false }
def LawS3473BFromSaid : Prop := lawS3473BFromRow.holds Yba.pinned (OpenSpec.ofChange lawS3473BFromSpec)

/-- ITS FALSE NEIGHBOUR: 'it returns false'. Refute it at one input. -/
def lawS3473BFromWrong : ChangeSpec := { name := "lawS3473BFrom", fn := fun _ => fun
  | [d1, d2, d3, d4, d5, d6] => { results := [.lit (.bool false)], args := [d1, d2, d3, d4, d5, d6] }
  | _ => none }
def LawS3473BFromWrongFalsely : Prop := lawS3473BFromRow.holds Yba.pinned (OpenSpec.ofChange lawS3473BFromWrong)

/-- 'cordon.LawS3473BSeq': WHATEVER THE INPUT: true; the input reads as it did. -/
def lawS3473BSeqSpec : ChangeSpec := { name := "lawS3473BSeq", fn := fun _ => fun
  | [d1, d2, d3, d4, d5, d6] => { results := [.lit (.bool true)], args := [d1, d2, d3, d4, d5, d6] }
  | _ => none }
def lawS3473BSeqRow : OpenClaim := { program := "ybulkbsxc", sum := "17f1a4dd813211867394eb1ace03ffff561f86a9ec892e796822c59984d8c38c", func := "example.com/cordon/cordon.LawS3473BSeq", spec := "lawS3473BSeq", apart := false }
def LawS3473BSeqSaid : Prop := lawS3473BSeqRow.holds Yba.pinned (OpenSpec.ofChange lawS3473BSeqSpec)

/-- ITS FALSE NEIGHBOUR: 'it returns false'. Refute it at one input. -/
def lawS3473BSeqWrong : ChangeSpec := { name := "lawS3473BSeq", fn := fun _ => fun
  | [d1, d2, d3, d4, d5, d6] => { results := [.lit (.bool false)], args := [d1, d2, d3, d4, d5, d6] }
  | _ => none }
def LawS3473BSeqWrongFalsely : Prop := lawS3473BSeqRow.holds Yba.pinned (OpenSpec.ofChange lawS3473BSeqWrong)

end Rows
end Go.Proofs.Ybulkbsxc
