/-
  No cell of these rows narrows 'for every input' (looked for: loops, veiled, ifaces, maps, wideKeys, modest, calm, conditions, laid).
  DERIVED. THE GIVEN ROWS OF THIS SEAT. 5 by the template 'for every input the law returns true; each argument reads behind the call as it read before'; 0 by the template 'total and deterministic' (their statements: YbulkbvaoTotals.lean).
  GIVEN WITH THE SEED: the statements are not yours to turn. If you find one false, say at which input.
  Laid BY PROGRAM, IN A SANDBOX (cutbox-rows.mjs): the forced cells as the released guide's own fill.sh prints them over the translation 7aae8859a657d7cc… (all of the seat's roots in one cut). By AI agents, Wed Nov 11 2026. No macro, syntax, notation, axiom, sorry.
-/
import Derived.Test.YbulkbvaoChecked
import GoSem.Claim
import GoSem.ClaimJoined
import GoSem.ClaimMapViews
import Derived.JoinedTies
import Derived.KernelRfl
namespace Go.Proofs.Ybulkbvao
/- THE CELL 'sum', in the pinned program and in every row, IS THE sha256 OF THE DUMP (.gsa) THAT YbulkbvaoProg.lean LOADS. Nothing in Lean hashes anything: it is a label: what it is worth is what the hold of that sum in a sandbox is worth. -/
noncomputable def Yba.pinned : Pinned := { name := "ybulkbvao", sum := "7aae8859a657d7cc1f01f3e24cec07914e4a494dfa382dd0209bf5fad4b752e7", checked := Yba.checked }
namespace Rows
def none {H : Type} : Left H := { results := [], args := [] }

/-- 'generate.LawS3576AShape': WHATEVER THE INPUT: true; the input reads as it did. -/
def lawS3576AShapeSpec : ChangeSpec := { name := "lawS3576AShape", fn := fun _ => fun
  | [d] => { results := [.lit (.bool true)], args := [d] }
  | _ => none }
def lawS3576AShapeRow : OpenClaim := { program := "ybulkbvao", sum := "7aae8859a657d7cc1f01f3e24cec07914e4a494dfa382dd0209bf5fad4b752e7", func := "example.com/isoline/isoline/generate.LawS3576AShape", spec := "lawS3576AShape", apart := false }
def LawS3576AShapeSaid : Prop := lawS3576AShapeRow.holds Yba.pinned (OpenSpec.ofChange lawS3576AShapeSpec)

/-- ITS FALSE NEIGHBOUR: 'it returns false'. Refute it at one input. -/
def lawS3576AShapeWrong : ChangeSpec := { name := "lawS3576AShape", fn := fun _ => fun
  | [d] => { results := [.lit (.bool false)], args := [d] }
  | _ => none }
def LawS3576AShapeWrongFalsely : Prop := lawS3576AShapeRow.holds Yba.pinned (OpenSpec.ofChange lawS3576AShapeWrong)

/-- 'generate.LawS3576BModel': WHATEVER THE INPUT: true; the input reads as it did. -/
def lawS3576BModelSpec : ChangeSpec := { name := "lawS3576BModel", fn := fun _ => fun
  | [d1, d2, d3, d4, d5] => { results := [.lit (.bool true)], args := [d1, d2, d3, d4, d5] }
  | _ => none }
def lawS3576BModelRow : OpenClaim := { program := "ybulkbvao", sum := "7aae8859a657d7cc1f01f3e24cec07914e4a494dfa382dd0209bf5fad4b752e7", func := "example.com/isoline/isoline/generate.LawS3576BModel", spec := "lawS3576BModel", apart := false }
def LawS3576BModelSaid : Prop := lawS3576BModelRow.holds Yba.pinned (OpenSpec.ofChange lawS3576BModelSpec)

/-- ITS FALSE NEIGHBOUR: 'it returns false'. Refute it at one input. -/
def lawS3576BModelWrong : ChangeSpec := { name := "lawS3576BModel", fn := fun _ => fun
  | [d1, d2, d3, d4, d5] => { results := [.lit (.bool false)], args := [d1, d2, d3, d4, d5] }
  | _ => none }
def LawS3576BModelWrongFalsely : Prop := lawS3576BModelRow.holds Yba.pinned (OpenSpec.ofChange lawS3576BModelWrong)

/-- 'generate.LawS3576BBuilt': WHATEVER THE INPUT: true; the input reads as it did. -/
def lawS3576BBuiltSpec : ChangeSpec := { name := "lawS3576BBuilt", fn := fun _ => fun
  | [d1, d2, d3, d4] => { results := [.lit (.bool true)], args := [d1, d2, d3, d4] }
  | _ => none }
def lawS3576BBuiltRow : OpenClaim := { program := "ybulkbvao", sum := "7aae8859a657d7cc1f01f3e24cec07914e4a494dfa382dd0209bf5fad4b752e7", func := "example.com/isoline/isoline/generate.LawS3576BBuilt", spec := "lawS3576BBuilt", unfollowed := true, recurses := true, apart := false }
def LawS3576BBuiltSaid : Prop := lawS3576BBuiltRow.holds Yba.pinned (OpenSpec.ofChange lawS3576BBuiltSpec)

/-- ITS FALSE NEIGHBOUR: 'it returns false'. Refute it at one input. -/
def lawS3576BBuiltWrong : ChangeSpec := { name := "lawS3576BBuilt", fn := fun _ => fun
  | [d1, d2, d3, d4] => { results := [.lit (.bool false)], args := [d1, d2, d3, d4] }
  | _ => none }
def LawS3576BBuiltWrongFalsely : Prop := lawS3576BBuiltRow.holds Yba.pinned (OpenSpec.ofChange lawS3576BBuiltWrong)

/-- 'generate.LawS3576CRefines': WHATEVER THE INPUT: true; the input reads as it did. -/
def lawS3576CRefinesSpec : ChangeSpec := { name := "lawS3576CRefines", fn := fun _ => fun
  | [d] => { results := [.lit (.bool true)], args := [d] }
  | _ => none }
def lawS3576CRefinesRow : OpenClaim := { program := "ybulkbvao", sum := "7aae8859a657d7cc1f01f3e24cec07914e4a494dfa382dd0209bf5fad4b752e7", func := "example.com/isoline/isoline/generate.LawS3576CRefines", spec := "lawS3576CRefines", apart := false }
def LawS3576CRefinesSaid : Prop := lawS3576CRefinesRow.holds Yba.pinned (OpenSpec.ofChange lawS3576CRefinesSpec)

/-- ITS FALSE NEIGHBOUR: 'it returns false'. Refute it at one input. -/
def lawS3576CRefinesWrong : ChangeSpec := { name := "lawS3576CRefines", fn := fun _ => fun
  | [d] => { results := [.lit (.bool false)], args := [d] }
  | _ => none }
def LawS3576CRefinesWrongFalsely : Prop := lawS3576CRefinesRow.holds Yba.pinned (OpenSpec.ofChange lawS3576CRefinesWrong)

/-- 'generate.LawS3576CWraps': WHATEVER THE INPUT: true; the input reads as it did. -/
def lawS3576CWrapsSpec : ChangeSpec := { name := "lawS3576CWraps", fn := fun _ => fun
  | [d1, d2] => { results := [.lit (.bool true)], args := [d1, d2] }
  | _ => none }
def lawS3576CWrapsRow : OpenClaim := { program := "ybulkbvao", sum := "7aae8859a657d7cc1f01f3e24cec07914e4a494dfa382dd0209bf5fad4b752e7", func := "example.com/isoline/isoline/generate.LawS3576CWraps", spec := "lawS3576CWraps", apart := false }
def LawS3576CWrapsSaid : Prop := lawS3576CWrapsRow.holds Yba.pinned (OpenSpec.ofChange lawS3576CWrapsSpec)

/-- ITS FALSE NEIGHBOUR: 'it returns false'. Refute it at one input. -/
def lawS3576CWrapsWrong : ChangeSpec := { name := "lawS3576CWraps", fn := fun _ => fun
  | [d1, d2] => { results := [.lit (.bool false)], args := [d1, d2] }
  | _ => none }
def LawS3576CWrapsWrongFalsely : Prop := lawS3576CWrapsRow.holds Yba.pinned (OpenSpec.ofChange lawS3576CWrapsWrong)

end Rows
end Go.Proofs.Ybulkbvao
