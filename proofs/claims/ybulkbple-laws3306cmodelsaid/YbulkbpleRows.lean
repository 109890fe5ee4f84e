/-
  No cell of these rows narrows 'for every input' (looked for: loops, veiled, ifaces, maps, wideKeys, modest, calm, conditions, laid).
  DERIVED. THE GIVEN ROWS OF THIS SEAT. 2 by the template 'for every input the law returns true; each argument reads behind the call as it read before'; 0 by the template 'total and deterministic' (their statements: YbulkbpleTotals.lean).
  GIVEN WITH THE SEED: the statements are not yours to turn. If you find one false, say at which input.
  Laid BY PROGRAM, IN A SANDBOX (cutbox-rows.mjs): the forced cells as the released guide's own fill.sh prints them over the translation 83531e91941e250d… (all of the seat's roots in one cut). By AI agents, Wed Nov 11 2026. No macro, syntax, notation, axiom, sorry.
-/
import Derived.Test.YbulkbpleChecked
import GoSem.Claim
import GoSem.ClaimJoined
import GoSem.ClaimMapViews
import Derived.JoinedTies
import Derived.KernelRfl
namespace Go.Proofs.Ybulkbple
/- THE CELL 'sum', in the pinned program and in every row, IS THE sha256 OF THE DUMP (.gsa) THAT YbulkbpleProg.lean LOADS. Nothing in Lean hashes anything: it is a label: what it is worth is what the hold of that sum in a sandbox is worth. -/
noncomputable def Yba.pinned : Pinned := { name := "ybulkbple", sum := "83531e91941e250d49fa5e879d74d939ff72a0ab57d85630c01e81b8ddddc3fc", checked := Yba.checked }
namespace Rows
def none {H : Type} : Left H := { results := [], args := [] }

/-- 'buckets.LawS3306CModel': WHATEVER THE INPUT: true; the input reads as it did. -/
def lawS3306CModelSpec : ChangeSpec := { name := "lawS3306CModel", fn := fun _ => fun
  | [d1, d2, d3, d4, d5] => { results := [.lit (.bool true)], args := [d1, d2, d3, d4, d5] }
  | _ => none }
def lawS3306CModelRow : OpenClaim := { program := "ybulkbple", sum := "83531e91941e250d49fa5e879d74d939ff72a0ab57d85630c01e81b8ddddc3fc", func := "example.com/aging-buckets/aging-buckets/internal/buckets.LawS3306CModel", spec := "lawS3306CModel", apart := false }
def LawS3306CModelSaid : Prop := lawS3306CModelRow.holds Yba.pinned (OpenSpec.ofChange lawS3306CModelSpec)

/-- ITS FALSE NEIGHBOUR: 'it returns false'. Refute it at one input. -/
def lawS3306CModelWrong : ChangeSpec := { name := "lawS3306CModel", fn := fun _ => fun
  | [d1, d2, d3, d4, d5] => { results := [.lit (.bool false)], args := [d1, d2, d3, d4, d5] }
  | _ => none }
def LawS3306CModelWrongFalsely : Prop := lawS3306CModelRow.holds Yba.pinned (OpenSpec.ofChange lawS3306CModelWrong)

/-- 'buckets.LawS3306CSplit': WHATEVER THE INPUT: true; the input reads as it did. -/
def lawS3306CSplitSpec : ChangeSpec := { name := "lawS3306CSplit", fn := fun _ => fun
  | [d1, d2, d3, d4, d5] => { results := [.lit (.bool true)], args := [d1, d2, d3, d4, d5] }
  | _ => none }
def lawS3306CSplitRow : OpenClaim := { program := "ybulkbple", sum := "83531e91941e250d49fa5e879d74d939ff72a0ab57d85630c01e81b8ddddc3fc", func := "example.com/aging-buckets/aging-buckets/internal/buckets.LawS3306CSplit", spec := "lawS3306CSplit", apart := false }
def LawS3306CSplitSaid : Prop := lawS3306CSplitRow.holds Yba.pinned (OpenSpec.ofChange lawS3306CSplitSpec)

/-- ITS FALSE NEIGHBOUR: 'it returns false'. Refute it at one input. -/
def lawS3306CSplitWrong : ChangeSpec := { name := "lawS3306CSplit", fn := fun _ => fun
  | [d1, d2, d3, d4, d5] => { results := [.lit (.bool false)], args := [d1, d2, d3, d4, d5] }
  | _ => none }
def LawS3306CSplitWrongFalsely : Prop := lawS3306CSplitRow.holds Yba.pinned (OpenSpec.ofChange lawS3306CSplitWrong)

end Rows
end Go.Proofs.Ybulkbple
