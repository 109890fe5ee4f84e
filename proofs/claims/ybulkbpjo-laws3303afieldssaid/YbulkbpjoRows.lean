/-
  No cell of these rows narrows 'for every input' (looked for: loops, veiled, ifaces, maps, wideKeys, modest, calm, conditions, laid).
  DERIVED. THE GIVEN ROWS OF THIS SEAT. 2 by the template 'for every input the law returns true; each argument reads behind the call as it read before'; 0 by the template 'total and deterministic' (their statements: YbulkbpjoTotals.lean).
  GIVEN WITH THE SEED: the statements are not yours to turn. If you find one false, say at which input.
  Laid BY PROGRAM, IN A SANDBOX (cutbox-rows.mjs): the forced cells as the released guide's own fill.sh prints them over the translation 42239be2aece0667… (all of the seat's roots in one cut). By AI agents, Wed Nov 11 2026. No macro, syntax, notation, axiom, sorry.
-/
import Derived.Test.YbulkbpjoChecked
import GoSem.Claim
import GoSem.ClaimJoined
import GoSem.ClaimMapViews
import Derived.JoinedTies
import Derived.KernelRfl
namespace Go.Proofs.Ybulkbpjo
/- THE CELL 'sum', in the pinned program and in every row, IS THE sha256 OF THE DUMP (.gsa) THAT YbulkbpjoProg.lean LOADS. Nothing in Lean hashes anything: it is a label: what it is worth is what the hold of that sum in a sandbox is worth. -/
noncomputable def Yba.pinned : Pinned := { name := "ybulkbpjo", sum := "42239be2aece066759bd1adbac5680952feda9d877f56788a3bd9265b449d99f", checked := Yba.checked }
namespace Rows
def none {H : Type} : Left H := { results := [], args := [] }

/-- 'trace.LawS3303AFields': WHATEVER THE INPUT: true; the input reads as it did. -/
def lawS3303AFieldsSpec : ChangeSpec := { name := "lawS3303AFields", fn := fun _ => fun
  | [d] => { results := [.lit (.bool true)], args := [d] }
  | _ => none }
def lawS3303AFieldsRow : OpenClaim := { program := "ybulkbpjo", sum := "42239be2aece066759bd1adbac5680952feda9d877f56788a3bd9265b449d99f", func := "example.com/anchorline/anchorline/internal/trace.LawS3303AFields", spec := "lawS3303AFields", apart := false }
def LawS3303AFieldsSaid : Prop := lawS3303AFieldsRow.holds Yba.pinned (OpenSpec.ofChange lawS3303AFieldsSpec)

/-- ITS FALSE NEIGHBOUR: 'it returns false'. Refute it at one input. -/
def lawS3303AFieldsWrong : ChangeSpec := { name := "lawS3303AFields", fn := fun _ => fun
  | [d] => { results := [.lit (.bool false)], args := [d] }
  | _ => none }
def LawS3303AFieldsWrongFalsely : Prop := lawS3303AFieldsRow.holds Yba.pinned (OpenSpec.ofChange lawS3303AFieldsWrong)

/-- 'anchorline.LawS3303BFinds': WHATEVER THE INPUT: true; the input reads as it did. -/
def lawS3303BFindsSpec : ChangeSpec := { name := "lawS3303BFinds", fn := fun _ => fun
  | [d1, d2, d3, d4, d5, d6] => { results := [.lit (.bool true)], args := [d1, d2, d3, d4, d5, d6] }
  | _ => none }
def lawS3303BFindsRow : OpenClaim := { program := "ybulkbpjo", sum := "42239be2aece066759bd1adbac5680952feda9d877f56788a3bd9265b449d99f", func := "example.com/anchorline/anchorline.LawS3303BFinds", spec := "lawS3303BFinds", unfollowed := true, recurses := true, apart := false }
def LawS3303BFindsSaid : Prop := lawS3303BFindsRow.holds Yba.pinned (OpenSpec.ofChange lawS3303BFindsSpec)

/-- ITS FALSE NEIGHBOUR: 'it returns false'. Refute it at one input. -/
def lawS3303BFindsWrong : ChangeSpec := { name := "lawS3303BFinds", fn := fun _ => fun
  | [d1, d2, d3, d4, d5, d6] => { results := [.lit (.bool false)], args := [d1, d2, d3, d4, d5, d6] }
  | _ => none }
def LawS3303BFindsWrongFalsely : Prop := lawS3303BFindsRow.holds Yba.pinned (OpenSpec.ofChange lawS3303BFindsWrong)

end Rows
end Go.Proofs.Ybulkbpjo
