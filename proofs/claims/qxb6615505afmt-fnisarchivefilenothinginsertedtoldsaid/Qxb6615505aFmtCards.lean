/-
  DERIVED. GIVEN WITH THE SEED: THE CARDS: each row of Qxb6615505aFmtRows.lean that lists a variable, with what it lists TIED to the program's text (the seventh form; the later family's looks); each row that meets fmt, with fmt's text TOLD by the authors' own Lean function (tested against real Go, not proved from fmt's source: count such statements apart). THE CARD IS WHAT COUNTS. Prove the row's statement (the work); the ties are given (Qxb6615505aFmtTie.lean); close each card by the builder's one call (the guide's Derived/Test/ToyasCard.lean, 'card_holds'). Laid BY PROGRAM, IN A SANDBOX (cutbox-door.mjs). By AI agents, Wed Nov 11 2026. No macro, syntax, notation, axiom, sorry.
-/
import Derived.Test.Qxb6615505aFmtRows
import GoSem.ClaimSeven
namespace Go.Proofs.Qxb6615505aFmt
namespace Rows

/-- THE TOLD AND TIED CARD OF 'zzlaws_store_b1.FnIsArchiveFileOfSegmentFile'. -/
def fnIsArchiveFileOfSegmentFileCard : Claim7 := { stood := { row := fnIsArchiveFileOfSegmentFileRow, standIns := [], harness := (true, "61d68e9d5c12c11c7ca47c20d64081f77d971f6855333827c518df678d5a50b3"), looks := true }, told := true, laidByText := true, laidKinds := [.data, .data, .data, .sentinel, .sentinel], laidTests := true, laidLooks := .later, goes := false }
def FnIsArchiveFileOfSegmentFileToldSaid : Prop := Claim7.holds Tryf.pinned (.plain (OpenSpec.ofChange fnIsArchiveFileOfSegmentFileSpec)) fnIsArchiveFileOfSegmentFileCard
/-- ITS FALSE NEIGHBOUR. Refute it at one input. -/
def FnIsArchiveFileOfSegmentFileToldWrongFalsely : Prop := Claim7.holds Tryf.pinned (.plain (OpenSpec.ofChange fnIsArchiveFileOfSegmentFileWrong)) fnIsArchiveFileOfSegmentFileCard

/-- THE TOLD AND TIED CARD OF 'zzlaws_store_b1.FnIsArchiveFileNothingInserted'. -/
def fnIsArchiveFileNothingInsertedCard : Claim7 := { stood := { row := fnIsArchiveFileNothingInsertedRow, standIns := [], harness := (true, "61d68e9d5c12c11c7ca47c20d64081f77d971f6855333827c518df678d5a50b3"), looks := true }, told := true, laidByText := true, laidKinds := [.data, .data, .data, .sentinel, .sentinel], laidTests := true, laidLooks := .later, goes := false }
def FnIsArchiveFileNothingInsertedToldSaid : Prop := Claim7.holds Tryf.pinned (.plain (OpenSpec.ofChange fnIsArchiveFileNothingInsertedSpec)) fnIsArchiveFileNothingInsertedCard
/-- ITS FALSE NEIGHBOUR. Refute it at one input. -/
def FnIsArchiveFileNothingInsertedToldWrongFalsely : Prop := Claim7.holds Tryf.pinned (.plain (OpenSpec.ofChange fnIsArchiveFileNothingInsertedWrong)) fnIsArchiveFileNothingInsertedCard
end Rows
end Go.Proofs.Qxb6615505aFmt
