/-
  DERIVED. GIVEN WITH THE SEED: THE CARDS: each row of YbulkbldsDoorRows.lean that lists a variable, with what it lists TIED to the program's text (the seventh form; the later family's looks); each row that meets fmt, with fmt's text TOLD by the authors' own Lean function (tested against real Go, not proved from fmt's source: count such statements apart). THE CARD IS WHAT COUNTS. Prove the row's statement (the work); the ties are given (YbulkbldsDoorTie.lean); close each card by the builder's one call (the guide's Derived/Test/ToyasCard.lean, 'card_holds'). Laid BY PROGRAM, IN A SANDBOX (cutbox-door.mjs). By AI agents, Wed Nov 11 2026. No macro, syntax, notation, axiom, sorry.
-/
import Derived.Test.YbulkbldsDoorRows
import GoSem.ClaimSeven
namespace Go.Proofs.YbulkbldsDoor
namespace Rows

/-- THE TIED CARD OF 'game.LawS3099AOne'. -/
def lawS3099AOneCard : Claim7 := { stood := { row := lawS3099AOneRow, standIns := [], harness := (true, "4a02b35f3fc5deb67c0640919b5f4897e14ce2a7936bd32d1a2e4c9f71fb74b0"), looks := true }, kinds := [], alts := [], laidByText := true, laidKinds := [.data, .data, .data, .sentinel], laidTests := true, laidLooks := .later }
def LawS3099AOneCardSaid : Prop := Claim7.holds Ybad.pinned (.plain (OpenSpec.ofChange lawS3099AOneSpec)) lawS3099AOneCard

/-- THE TIED CARD OF 'game.LawS3099ASeq'. -/
def lawS3099ASeqCard : Claim7 := { stood := { row := lawS3099ASeqRow, standIns := [], harness := (true, "4a02b35f3fc5deb67c0640919b5f4897e14ce2a7936bd32d1a2e4c9f71fb74b0"), looks := true }, kinds := [], alts := [], laidByText := true, laidKinds := [.data, .data, .data, .sentinel], laidTests := true, laidLooks := .later }
def LawS3099ASeqCardSaid : Prop := Claim7.holds Ybad.pinned (.plain (OpenSpec.ofChange lawS3099ASeqSpec)) lawS3099ASeqCard

/-- THE TIED CARD OF 'game.LawS3099AFail'. -/
def lawS3099AFailCard : Claim7 := { stood := { row := lawS3099AFailRow, standIns := [], harness := (true, "4a02b35f3fc5deb67c0640919b5f4897e14ce2a7936bd32d1a2e4c9f71fb74b0"), looks := true }, kinds := [], alts := [], laidByText := true, laidKinds := [.data, .data, .data, .sentinel], laidTests := true, laidLooks := .later }
def LawS3099AFailCardSaid : Prop := Claim7.holds Ybad.pinned (.plain (OpenSpec.ofChange lawS3099AFailSpec)) lawS3099AFailCard

/-- THE TIED CARD OF 'game.LawS3099BTurn'. -/
def lawS3099BTurnCard : Claim7 := { stood := { row := lawS3099BTurnRow, standIns := [], harness := (true, "4a02b35f3fc5deb67c0640919b5f4897e14ce2a7936bd32d1a2e4c9f71fb74b0"), looks := true }, kinds := [], alts := [], laidByText := true, laidKinds := [.data, .data, .data, .sentinel], laidTests := true, laidLooks := .later }
def LawS3099BTurnCardSaid : Prop := Claim7.holds Ybad.pinned (.plain (OpenSpec.ofChange lawS3099BTurnSpec)) lawS3099BTurnCard
end Rows
end Go.Proofs.YbulkbldsDoor
