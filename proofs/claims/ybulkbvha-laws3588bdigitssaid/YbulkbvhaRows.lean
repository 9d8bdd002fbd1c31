/-
  No cell of these rows narrows 'for every input' (looked for: loops, veiled, ifaces, maps, wideKeys, modest, calm, conditions, laid).
  DERIVED. THE GIVEN ROWS OF THIS SEAT. 2 by the template 'for every input the law returns true; each argument reads behind the call as it read before'; 0 by the template 'total and deterministic' (their statements: YbulkbvhaTotals.lean).
  GIVEN WITH THE SEED: the statements are not yours to turn. If you find one false, say at which input.
  Laid BY PROGRAM, IN A SANDBOX (cutbox-rows.mjs): the forced cells as the released guide's own fill.sh prints them over the translation 9a708b8673056897… (all of the seat's roots in one cut). By AI agents, Wed Nov 11 2026. No macro, syntax, notation, axiom, sorry.
-/
import Derived.Test.YbulkbvhaChecked
import GoSem.Claim
import GoSem.ClaimJoined
import GoSem.ClaimMapViews
import Derived.JoinedTies
import Derived.KernelRfl
namespace Go.Proofs.Ybulkbvha
/- THE CELL 'sum', in the pinned program and in every row, IS THE sha256 OF THE DUMP (.gsa) THAT YbulkbvhaProg.lean LOADS. Nothing in Lean hashes anything: it is a label: what it is worth is what the hold of that sum in a sandbox is worth. -/
noncomputable def Yba.pinned : Pinned := { name := "ybulkbvha", sum := "9a708b867305689715174747cebe26ba983fd65fde32217e274d3d09c20a74f7", checked := Yba.checked }
namespace Rows
def none {H : Type} : Left H := { results := [], args := [] }

/-- 'temporal.LawS3588BDigits': WHATEVER THE INPUT: true; the input reads as it did. -/
def lawS3588BDigitsSpec : ChangeSpec := { name := "lawS3588BDigits", fn := fun _ => fun
  | [d] => { results := [.lit (.bool true)], args := [d] }
  | _ => none }
def lawS3588BDigitsRow : OpenClaim := { program := "ybulkbvha", sum := "9a708b867305689715174747cebe26ba983fd65fde32217e274d3d09c20a74f7", func := "example.com/implicast/implicast/internal/temporal.LawS3588BDigits", spec := "lawS3588BDigits", apart := false }
def LawS3588BDigitsSaid : Prop := lawS3588BDigitsRow.holds Yba.pinned (OpenSpec.ofChange lawS3588BDigitsSpec)

/-- ITS FALSE NEIGHBOUR: 'it returns false'. Refute it at one input. -/
def lawS3588BDigitsWrong : ChangeSpec := { name := "lawS3588BDigits", fn := fun _ => fun
  | [d] => { results := [.lit (.bool false)], args := [d] }
  | _ => none }
def LawS3588BDigitsWrongFalsely : Prop := lawS3588BDigitsRow.holds Yba.pinned (OpenSpec.ofChange lawS3588BDigitsWrong)

/-- 'temporal.LawS3588BAnyBytes': WHATEVER THE INPUT: true; the input reads as it did. -/
def lawS3588BAnyBytesSpec : ChangeSpec := { name := "lawS3588BAnyBytes", fn := fun _ => fun
  | [d] => { results := [.lit (.bool true)], args := [d] }
  | _ => none }
def lawS3588BAnyBytesRow : OpenClaim := { program := "ybulkbvha", sum := "9a708b867305689715174747cebe26ba983fd65fde32217e274d3d09c20a74f7", func := "example.com/implicast/implicast/internal/temporal.LawS3588BAnyBytes", spec := "lawS3588BAnyBytes", apart := false }
def LawS3588BAnyBytesSaid : Prop := lawS3588BAnyBytesRow.holds Yba.pinned (OpenSpec.ofChange lawS3588BAnyBytesSpec)

/-- ITS FALSE NEIGHBOUR: 'it returns false'. Refute it at one input. -/
def lawS3588BAnyBytesWrong : ChangeSpec := { name := "lawS3588BAnyBytes", fn := fun _ => fun
  | [d] => { results := [.lit (.bool false)], args := [d] }
  | _ => none }
def LawS3588BAnyBytesWrongFalsely : Prop := lawS3588BAnyBytesRow.holds Yba.pinned (OpenSpec.ofChange lawS3588BAnyBytesWrong)

end Rows
end Go.Proofs.Ybulkbvha
