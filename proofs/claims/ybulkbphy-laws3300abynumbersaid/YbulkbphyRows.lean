/-
  No cell of these rows narrows 'for every input' (looked for: loops, veiled, ifaces, maps, wideKeys, modest, calm, conditions, laid).
  DERIVED. THE GIVEN ROWS OF THIS SEAT. 4 by the template 'for every input the law returns true; each argument reads behind the call as it read before'; 0 by the template 'total and deterministic' (their statements: YbulkbphyTotals.lean).
  GIVEN WITH THE SEED: the statements are not yours to turn. If you find one false, say at which input.
  Laid BY PROGRAM, IN A SANDBOX (cutbox-rows.mjs): the forced cells as the released guide's own fill.sh prints them over the translation 47dd6da2c44d5a9a… (all of the seat's roots in one cut). By AI agents, Wed Nov 11 2026. No macro, syntax, notation, axiom, sorry.
-/
import Derived.Test.YbulkbphyChecked
import GoSem.Claim
import GoSem.ClaimJoined
import GoSem.ClaimMapViews
import Derived.JoinedTies
import Derived.KernelRfl
namespace Go.Proofs.Ybulkbphy
/- THE CELL 'sum', in the pinned program and in every row, IS THE sha256 OF THE DUMP (.gsa) THAT YbulkbphyProg.lean LOADS. Nothing in Lean hashes anything: it is a label: what it is worth is what the hold of that sum in a sandbox is worth. -/
noncomputable def Yba.pinned : Pinned := { name := "ybulkbphy", sum := "47dd6da2c44d5a9ab9478d0b3d8723acb2e5045a4277259247b0b2fba8b8c9a6", checked := Yba.checked }
namespace Rows
def none {H : Type} : Left H := { results := [], args := [] }

/-- 'verdict.LawS3300APlace': WHATEVER THE INPUT: true; the input reads as it did. -/
def lawS3300APlaceSpec : ChangeSpec := { name := "lawS3300APlace", fn := fun _ => fun
  | [d1, d2] => { results := [.lit (.bool true)], args := [d1, d2] }
  | _ => none }
def lawS3300APlaceRow : OpenClaim := { program := "ybulkbphy", sum := "47dd6da2c44d5a9ab9478d0b3d8723acb2e5045a4277259247b0b2fba8b8c9a6", func := "example.com/verdict/verdict.LawS3300APlace", spec := "lawS3300APlace", apart := false }
def LawS3300APlaceSaid : Prop := lawS3300APlaceRow.holds Yba.pinned (OpenSpec.ofChange lawS3300APlaceSpec)

/-- ITS FALSE NEIGHBOUR: 'it returns false'. Refute it at one input. -/
def lawS3300APlaceWrong : ChangeSpec := { name := "lawS3300APlace", fn := fun _ => fun
  | [d1, d2] => { results := [.lit (.bool false)], args := [d1, d2] }
  | _ => none }
def LawS3300APlaceWrongFalsely : Prop := lawS3300APlaceRow.holds Yba.pinned (OpenSpec.ofChange lawS3300APlaceWrong)

/-- 'verdict.LawS3300AByNumber': WHATEVER THE INPUT: true; the input reads as it did. -/
def lawS3300AByNumberSpec : ChangeSpec := { name := "lawS3300AByNumber", fn := fun _ => fun
  | [d1, d2] => { results := [.lit (.bool true)], args := [d1, d2] }
  | _ => none }
def lawS3300AByNumberRow : OpenClaim := { program := "ybulkbphy", sum := "47dd6da2c44d5a9ab9478d0b3d8723acb2e5045a4277259247b0b2fba8b8c9a6", func := "example.com/verdict/verdict.LawS3300AByNumber", spec := "lawS3300AByNumber", apart := false }
def LawS3300AByNumberSaid : Prop := lawS3300AByNumberRow.holds Yba.pinned (OpenSpec.ofChange lawS3300AByNumberSpec)

/-- ITS FALSE NEIGHBOUR: 'it returns false'. Refute it at one input. -/
def lawS3300AByNumberWrong : ChangeSpec := { name := "lawS3300AByNumber", fn := fun _ => fun
  | [d1, d2] => { results := [.lit (.bool false)], args := [d1, d2] }
  | _ => none }
def LawS3300AByNumberWrongFalsely : Prop := lawS3300AByNumberRow.holds Yba.pinned (OpenSpec.ofChange lawS3300AByNumberWrong)

/-- 'verdict.LawS3300CStart': WHATEVER THE INPUT: true; the input reads as it did. -/
def lawS3300CStartSpec : ChangeSpec := { name := "lawS3300CStart", fn := fun _ => fun
  | [d1, d2, d3, d4, d5, d6, d7, d8] => { results := [.lit (.bool true)], args := [d1, d2, d3, d4, d5, d6, d7, d8] }
  | _ => none }
def lawS3300CStartRow : OpenClaim := { program := "ybulkbphy", sum := "47dd6da2c44d5a9ab9478d0b3d8723acb2e5045a4277259247b0b2fba8b8c9a6", func := "example.com/verdict/verdict.LawS3300CStart", spec := "lawS3300CStart", apart := false }
def LawS3300CStartSaid : Prop := lawS3300CStartRow.holds Yba.pinned (OpenSpec.ofChange lawS3300CStartSpec)

/-- ITS FALSE NEIGHBOUR: 'it returns false'. Refute it at one input. -/
def lawS3300CStartWrong : ChangeSpec := { name := "lawS3300CStart", fn := fun _ => fun
  | [d1, d2, d3, d4, d5, d6, d7, d8] => { results := [.lit (.bool false)], args := [d1, d2, d3, d4, d5, d6, d7, d8] }
  | _ => none }
def LawS3300CStartWrongFalsely : Prop := lawS3300CStartRow.holds Yba.pinned (OpenSpec.ofChange lawS3300CStartWrong)

/-- 'verdict.LawS3300CFresh': WHATEVER THE INPUT: true; the input reads as it did. -/
def lawS3300CFreshSpec : ChangeSpec := { name := "lawS3300CFresh", fn := fun _ => fun
  | [d1, d2] => { results := [.lit (.bool true)], args := [d1, d2] }
  | _ => none }
def lawS3300CFreshRow : OpenClaim := { program := "ybulkbphy", sum := "47dd6da2c44d5a9ab9478d0b3d8723acb2e5045a4277259247b0b2fba8b8c9a6", func := "example.com/verdict/verdict.LawS3300CFresh", spec := "lawS3300CFresh", apart := false }
def LawS3300CFreshSaid : Prop := lawS3300CFreshRow.holds Yba.pinned (OpenSpec.ofChange lawS3300CFreshSpec)

/-- ITS FALSE NEIGHBOUR: 'it returns false'. Refute it at one input. -/
def lawS3300CFreshWrong : ChangeSpec := { name := "lawS3300CFresh", fn := fun _ => fun
  | [d1, d2] => { results := [.lit (.bool false)], args := [d1, d2] }
  | _ => none }
def LawS3300CFreshWrongFalsely : Prop := lawS3300CFreshRow.holds Yba.pinned (OpenSpec.ofChange lawS3300CFreshWrong)

end Rows
end Go.Proofs.Ybulkbphy
