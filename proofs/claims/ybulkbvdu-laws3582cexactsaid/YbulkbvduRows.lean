/-
  No cell of these rows narrows 'for every input' (looked for: loops, veiled, ifaces, maps, wideKeys, modest, calm, conditions, laid).
  DERIVED. THE GIVEN ROWS OF THIS SEAT. 2 by the template 'for every input the law returns true; each argument reads behind the call as it read before'; 0 by the template 'total and deterministic' (their statements: YbulkbvduTotals.lean).
  GIVEN WITH THE SEED: the statements are not yours to turn. If you find one false, say at which input.
  Laid BY PROGRAM, IN A SANDBOX (cutbox-rows.mjs): the forced cells as the released guide's own fill.sh prints them over the translation ba0e710801a564a8… (all of the seat's roots in one cut). By AI agents, Wed Nov 11 2026. No macro, syntax, notation, axiom, sorry.
-/
import Derived.Test.YbulkbvduChecked
import GoSem.Claim
import GoSem.ClaimJoined
import GoSem.ClaimMapViews
import Derived.JoinedTies
import Derived.KernelRfl
namespace Go.Proofs.Ybulkbvdu
/- THE CELL 'sum', in the pinned program and in every row, IS THE sha256 OF THE DUMP (.gsa) THAT YbulkbvduProg.lean LOADS. Nothing in Lean hashes anything: it is a label: what it is worth is what the hold of that sum in a sandbox is worth. -/
noncomputable def Yba.pinned : Pinned := { name := "ybulkbvdu", sum := "ba0e710801a564a8bd9195312daca2bdf496f1886856354342a9ca207d1ff4c2", checked := Yba.checked }
namespace Rows
def none {H : Type} : Left H := { results := [], args := [] }

/-- 'synccrash.LawS3582CExact': WHATEVER THE INPUT: true; the input reads as it did. -/
def lawS3582CExactSpec : ChangeSpec := { name := "lawS3582CExact", fn := fun _ => fun
  | [d1, d2, d3, d4, d5, d6, d7, d8] => { results := [.lit (.bool true)], args := [d1, d2, d3, d4, d5, d6, d7, d8] }
  | _ => none }
def lawS3582CExactRow : OpenClaim := { program := "ybulkbvdu", sum := "ba0e710801a564a8bd9195312daca2bdf496f1886856354342a9ca207d1ff4c2", func := "example.com/survivorum/survivorum/synccrash.LawS3582CExact", spec := "lawS3582CExact", inPlace := ["maps.clone"], apart := false }
def LawS3582CExactSaid : Prop := lawS3582CExactRow.holds Yba.pinned (OpenSpec.ofChange lawS3582CExactSpec)

/-- ITS FALSE NEIGHBOUR: 'it returns false'. Refute it at one input. -/
def lawS3582CExactWrong : ChangeSpec := { name := "lawS3582CExact", fn := fun _ => fun
  | [d1, d2, d3, d4, d5, d6, d7, d8] => { results := [.lit (.bool false)], args := [d1, d2, d3, d4, d5, d6, d7, d8] }
  | _ => none }
def LawS3582CExactWrongFalsely : Prop := lawS3582CExactRow.holds Yba.pinned (OpenSpec.ofChange lawS3582CExactWrong)

/-- 'synccrash.LawS3582CStopsAfterDecide': WHATEVER THE INPUT: true; the input reads as it did. -/
def lawS3582CStopsAfterDecideSpec : ChangeSpec := { name := "lawS3582CStopsAfterDecide", fn := fun _ => fun
  | [d1, d2, d3, d4, d5, d6] => { results := [.lit (.bool true)], args := [d1, d2, d3, d4, d5, d6] }
  | _ => none }
def lawS3582CStopsAfterDecideRow : OpenClaim := { program := "ybulkbvdu", sum := "ba0e710801a564a8bd9195312daca2bdf496f1886856354342a9ca207d1ff4c2", func := "example.com/survivorum/survivorum/synccrash.LawS3582CStopsAfterDecide", spec := "lawS3582CStopsAfterDecide", inPlace := ["maps.clone"], apart := false }
def LawS3582CStopsAfterDecideSaid : Prop := lawS3582CStopsAfterDecideRow.holds Yba.pinned (OpenSpec.ofChange lawS3582CStopsAfterDecideSpec)

/-- ITS FALSE NEIGHBOUR: 'it returns false'. Refute it at one input. -/
def lawS3582CStopsAfterDecideWrong : ChangeSpec := { name := "lawS3582CStopsAfterDecide", fn := fun _ => fun
  | [d1, d2, d3, d4, d5, d6] => { results := [.lit (.bool false)], args := [d1, d2, d3, d4, d5, d6] }
  | _ => none }
def LawS3582CStopsAfterDecideWrongFalsely : Prop := lawS3582CStopsAfterDecideRow.holds Yba.pinned (OpenSpec.ofChange lawS3582CStopsAfterDecideWrong)

end Rows
end Go.Proofs.Ybulkbvdu
