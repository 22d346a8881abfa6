/-
  No cell of these rows narrows 'for every input' (looked for: loops, veiled, ifaces, maps, wideKeys, modest, calm, conditions, laid).
  DERIVED. THE GIVEN ROWS OF THIS SEAT. 2 by the template 'for every input the law returns true; each argument reads behind the call as it read before'; 0 by the template 'total and deterministic' (their statements: YbulkbszgTotals.lean).
  GIVEN WITH THE SEED: the statements are not yours to turn. If you find one false, say at which input.
  Laid BY PROGRAM, IN A SANDBOX (cutbox-rows.mjs): the forced cells as the released guide's own fill.sh prints them over the translation 2b74e0a0069cde8b… (all of the seat's roots in one cut). By AI agents, Wed Nov 11 2026. No macro, syntax, notation, axiom, sorry.
-/
import Derived.Test.YbulkbszgChecked
import GoSem.Claim
import GoSem.ClaimJoined
import GoSem.ClaimMapViews
import Derived.JoinedTies
import Derived.KernelRfl
namespace Go.Proofs.Ybulkbszg
/- THE CELL 'sum', in the pinned program and in every row, IS THE sha256 OF THE DUMP (.gsa) THAT YbulkbszgProg.lean LOADS. Nothing in Lean hashes anything: it is a label: what it is worth is what the hold of that sum in a sandbox is worth. -/
noncomputable def Yba.pinned : Pinned := { name := "ybulkbszg", sum := "2b74e0a0069cde8b763bdb531fef30b9e032b36ee99cdf35fae054255c255451", checked := Yba.checked }
namespace Rows
def none {H : Type} : Left H := { results := [], args := [] }

/-- 'hub.LawS3477ASorted': WHATEVER THE INPUT: true; the input reads as it did. -/
def lawS3477ASortedSpec : ChangeSpec := { name := "lawS3477ASorted", fn := fun _ => fun
  | [d] => { results := [.lit (.bool true)], args := [d] }
  | _ => none }
def lawS3477ASortedRow : OpenClaim := { program := "ybulkbszg", sum := "2b74e0a0069cde8b763bdb531fef30b9e032b36ee99cdf35fae054255c255451", func := "example.com/signalpost/signalpost/internal/hub.LawS3477ASorted", spec := "lawS3477ASorted", inPlace := ["internal/bytealg.abigen_runtime_cmpstring"], unfollowed := true, recurses := true, plainKeys := false, apart := false }
def LawS3477ASortedSaid : Prop := lawS3477ASortedRow.holds Yba.pinned (OpenSpec.ofChange lawS3477ASortedSpec)

/-- ITS FALSE NEIGHBOUR: 'it returns false'. Refute it at one input. -/
def lawS3477ASortedWrong : ChangeSpec := { name := "lawS3477ASorted", fn := fun _ => fun
  | [d] => { results := [.lit (.bool false)], args := [d] }
  | _ => none }
def LawS3477ASortedWrongFalsely : Prop := lawS3477ASortedRow.holds Yba.pinned (OpenSpec.ofChange lawS3477ASortedWrong)

/-- 'hub.LawS3477CToken': WHATEVER THE INPUT: true; the input reads as it did. -/
def lawS3477CTokenSpec : ChangeSpec := { name := "lawS3477CToken", fn := fun _ => fun
  | [d] => { results := [.lit (.bool true)], args := [d] }
  | _ => none }
def lawS3477CTokenRow : OpenClaim := { program := "ybulkbszg", sum := "2b74e0a0069cde8b763bdb531fef30b9e032b36ee99cdf35fae054255c255451", func := "example.com/signalpost/signalpost/internal/hub.LawS3477CToken", spec := "lawS3477CToken", plainKeys := false, apart := false }
def LawS3477CTokenSaid : Prop := lawS3477CTokenRow.holds Yba.pinned (OpenSpec.ofChange lawS3477CTokenSpec)

/-- ITS FALSE NEIGHBOUR: 'it returns false'. Refute it at one input. -/
def lawS3477CTokenWrong : ChangeSpec := { name := "lawS3477CToken", fn := fun _ => fun
  | [d] => { results := [.lit (.bool false)], args := [d] }
  | _ => none }
def LawS3477CTokenWrongFalsely : Prop := lawS3477CTokenRow.holds Yba.pinned (OpenSpec.ofChange lawS3477CTokenWrong)

end Rows
end Go.Proofs.Ybulkbszg
