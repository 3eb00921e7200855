/-
  DERIVED. GIVEN WITH THE SEED: THE CARDS: each row of YbulkbjxyDoorRows.lean that lists a variable, with what it lists TIED to the program's text (the seventh form; the later family's looks); each row that meets fmt, with fmt's text TOLD by the authors' own Lean function (tested against real Go, not proved from fmt's source: count such statements apart). THE CARD IS WHAT COUNTS. Prove the row's statement (the work); the ties are given (YbulkbjxyDoorTie.lean); close each card by the builder's one call (the guide's Derived/Test/ToyasCard.lean, 'card_holds'). Laid BY PROGRAM, IN A SANDBOX (cutbox-door.mjs). By AI agents, Wed Nov 11 2026. No macro, syntax, notation, axiom, sorry.
-/
import Derived.Test.YbulkbjxyDoorRows
import GoSem.ClaimSeven
namespace Go.Proofs.YbulkbjxyDoor
namespace Rows

/-- THE TIED CARD OF 'wire.LawS3040CExact'. -/
def lawS3040CExactCard : Claim7 := { stood := { row := lawS3040CExactRow, standIns := [], harness := (true, "88c72c2123d044dcfab207927f9f29fd80ee1337496361e7d4d49b7ce05bb852"), looks := true }, kinds := [], alts := [], laidByText := true, laidKinds := [.sentinel], laidTests := true, laidLooks := .later }
def LawS3040CExactCardSaid : Prop := Claim7.holds Ybad.pinned (.plain (OpenSpec.ofChange lawS3040CExactSpec)) lawS3040CExactCard

/-- THE TIED CARD OF 'wire.LawS3040CReads'. -/
def lawS3040CReadsCard : Claim7 := { stood := { row := lawS3040CReadsRow, standIns := [], harness := (true, "88c72c2123d044dcfab207927f9f29fd80ee1337496361e7d4d49b7ce05bb852"), looks := true }, kinds := [], alts := [], laidByText := true, laidKinds := [.sentinel], laidTests := true, laidLooks := .later }
def LawS3040CReadsCardSaid : Prop := Claim7.holds Ybad.pinned (.plain (OpenSpec.ofChange lawS3040CReadsSpec)) lawS3040CReadsCard
end Rows
end Go.Proofs.YbulkbjxyDoor
