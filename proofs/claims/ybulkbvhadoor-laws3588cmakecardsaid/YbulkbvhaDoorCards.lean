/-
  DERIVED. GIVEN WITH THE SEED: THE CARDS: each row of YbulkbvhaDoorRows.lean that lists a variable, with what it lists TIED to the program's text (the seventh form; the later family's looks); each row that meets fmt, with fmt's text TOLD by the authors' own Lean function (tested against real Go, not proved from fmt's source: count such statements apart). THE CARD IS WHAT COUNTS. Prove the row's statement (the work); the ties are given (YbulkbvhaDoorTie.lean); close each card by the builder's one call (the guide's Derived/Test/ToyasCard.lean, 'card_holds'). Laid BY PROGRAM, IN A SANDBOX (cutbox-door.mjs). By AI agents, Wed Nov 11 2026. No macro, syntax, notation, axiom, sorry.
-/
import Derived.Test.YbulkbvhaDoorRows
import GoSem.ClaimSeven
namespace Go.Proofs.YbulkbvhaDoor
namespace Rows

/-- THE TIED CARD OF 'implicast.LawS3588CMake'. -/
def lawS3588CMakeCard : Claim7 := { stood := { row := lawS3588CMakeRow, standIns := [], harness := (true, "b694149cadfe7fae3a8151474ec22007aed21ffa14a4dc9f3f738d1e04e8f0fe"), looks := true }, kinds := [], alts := [], laidByText := true, laidKinds := [.data, .data, .data, .called], laidTests := true, laidLooks := .later }
def LawS3588CMakeCardSaid : Prop := Claim7.holds Ybad.pinned (.plain (OpenSpec.ofChange lawS3588CMakeSpec)) lawS3588CMakeCard
end Rows
end Go.Proofs.YbulkbvhaDoor
