/-
  No cell of these rows narrows 'for every input' (looked for: loops, veiled, ifaces, maps, wideKeys, modest, calm, conditions, laid).
  DERIVED. THE GIVEN ROWS OF THIS SEAT. 2 by the template 'for every input the law returns true; each argument reads behind the call as it read before'; 0 by the template 'total and deterministic' (their statements: YbulkbphkTotals.lean).
  GIVEN WITH THE SEED: the statements are not yours to turn. If you find one false, say at which input.
  Laid BY PROGRAM, IN A SANDBOX (cutbox-rows.mjs): the forced cells as the released guide's own fill.sh prints them over the translation 4da2d008920f50cb… (all of the seat's roots in one cut). By AI agents, Wed Nov 11 2026. No macro, syntax, notation, axiom, sorry.
-/
import Derived.Test.YbulkbphkChecked
import GoSem.Claim
import GoSem.ClaimJoined
import GoSem.ClaimMapViews
import Derived.JoinedTies
import Derived.KernelRfl
namespace Go.Proofs.Ybulkbphk
/- THE CELL 'sum', in the pinned program and in every row, IS THE sha256 OF THE DUMP (.gsa) THAT YbulkbphkProg.lean LOADS. Nothing in Lean hashes anything: it is a label: what it is worth is what the hold of that sum in a sandbox is worth. -/
noncomputable def Yba.pinned : Pinned := { name := "ybulkbphk", sum := "4da2d008920f50cbade4f0ee7074f6d3da1c758bf5c08ff47630eb9b42422847", checked := Yba.checked }
namespace Rows
def none {H : Type} : Left H := { results := [], args := [] }

/-- 'work-ledger.LawS3299CRefusesEmpty': WHATEVER THE INPUT: true; the input reads as it did. -/
def lawS3299CRefusesEmptySpec : ChangeSpec := { name := "lawS3299CRefusesEmpty", fn := fun _ => fun
  | [d1, d2] => { results := [.lit (.bool true)], args := [d1, d2] }
  | _ => none }
def lawS3299CRefusesEmptyRow : OpenClaim := { program := "ybulkbphk", sum := "4da2d008920f50cbade4f0ee7074f6d3da1c758bf5c08ff47630eb9b42422847", func := "example.com/work-ledger/work-ledger.LawS3299CRefusesEmpty", spec := "lawS3299CRefusesEmpty", apart := false }
def LawS3299CRefusesEmptySaid : Prop := lawS3299CRefusesEmptyRow.holds Yba.pinned (OpenSpec.ofChange lawS3299CRefusesEmptySpec)

/-- ITS FALSE NEIGHBOUR: 'it returns false'. Refute it at one input. -/
def lawS3299CRefusesEmptyWrong : ChangeSpec := { name := "lawS3299CRefusesEmpty", fn := fun _ => fun
  | [d1, d2] => { results := [.lit (.bool false)], args := [d1, d2] }
  | _ => none }
def LawS3299CRefusesEmptyWrongFalsely : Prop := lawS3299CRefusesEmptyRow.holds Yba.pinned (OpenSpec.ofChange lawS3299CRefusesEmptyWrong)

/-- 'work-ledger.LawS3299CArgTasks': WHATEVER THE INPUT: true; the input reads as it did. -/
def lawS3299CArgTasksSpec : ChangeSpec := { name := "lawS3299CArgTasks", fn := fun _ => fun
  | [d] => { results := [.lit (.bool true)], args := [d] }
  | _ => none }
def lawS3299CArgTasksRow : OpenClaim := { program := "ybulkbphk", sum := "4da2d008920f50cbade4f0ee7074f6d3da1c758bf5c08ff47630eb9b42422847", func := "example.com/work-ledger/work-ledger.LawS3299CArgTasks", spec := "lawS3299CArgTasks", apart := false }
def LawS3299CArgTasksSaid : Prop := lawS3299CArgTasksRow.holds Yba.pinned (OpenSpec.ofChange lawS3299CArgTasksSpec)

/-- ITS FALSE NEIGHBOUR: 'it returns false'. Refute it at one input. -/
def lawS3299CArgTasksWrong : ChangeSpec := { name := "lawS3299CArgTasks", fn := fun _ => fun
  | [d] => { results := [.lit (.bool false)], args := [d] }
  | _ => none }
def LawS3299CArgTasksWrongFalsely : Prop := lawS3299CArgTasksRow.holds Yba.pinned (OpenSpec.ofChange lawS3299CArgTasksWrong)

end Rows
end Go.Proofs.Ybulkbphk
