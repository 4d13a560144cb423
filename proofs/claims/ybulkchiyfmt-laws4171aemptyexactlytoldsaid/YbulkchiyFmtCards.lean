/-
  DERIVED. GIVEN WITH THE SEED: THE CARDS: each row of YbulkchiyFmtRows.lean that lists a variable, with what it lists TIED to the program's text (the seventh form; the later family's looks); each row that meets fmt, with fmt's text TOLD by the authors' own Lean function (tested against real Go, not proved from fmt's source: count such statements apart). THE CARD IS WHAT COUNTS. Prove the row's statement (the work); the ties are given (YbulkchiyFmtTie.lean); close each card by the builder's one call (the guide's Derived/Test/ToyasCard.lean, 'card_holds'). Laid BY PROGRAM, IN A SANDBOX (cutbox-door.mjs). By AI agents, Wed Nov 11 2026. No macro, syntax, notation, axiom, sorry.
-/
import Derived.Test.YbulkchiyFmtRows
import GoSem.ClaimSeven
namespace Go.Proofs.YbulkchiyFmt
namespace Rows

/-- THE TOLD CARD OF 'judge.LawS4171AEmptyExactly'. -/
def lawS4171AEmptyExactlyCard : Claim7 := { stood := { row := lawS4171AEmptyExactlyRow, standIns := [], harness := (true, "2097615dcadf964afc94c0f487952bb30ed9d805c01daad9058ed5d9e7ccfbfe"), looks := true }, told := true, goes := false }
def LawS4171AEmptyExactlyToldSaid : Prop := Claim7.holds Ybaf.pinned (.plain (OpenSpec.ofChange lawS4171AEmptyExactlySpec)) lawS4171AEmptyExactlyCard
/-- ITS FALSE NEIGHBOUR. Refute it at one input. -/
def LawS4171AEmptyExactlyToldWrongFalsely : Prop := Claim7.holds Ybaf.pinned (.plain (OpenSpec.ofChange lawS4171AEmptyExactlyWrong)) lawS4171AEmptyExactlyCard

/-- THE TOLD AND TIED CARD OF 'plans.LawS4171CAccept'. -/
def lawS4171CAcceptCard : Claim7 := { stood := { row := lawS4171CAcceptRow, standIns := [], harness := (true, "2097615dcadf964afc94c0f487952bb30ed9d805c01daad9058ed5d9e7ccfbfe"), looks := true }, told := true, laidByText := true, laidKinds := [.data, .sentinel, .sentinel, .sentinel, .sentinel, .sentinel, .sentinel, .sentinel, .pinned], laidTests := true, laidLooks := .later, goes := false }
def LawS4171CAcceptToldSaid : Prop := Claim7.holds Ybaf.pinned (.plain (OpenSpec.ofChange lawS4171CAcceptSpec)) lawS4171CAcceptCard
/-- ITS FALSE NEIGHBOUR. Refute it at one input. -/
def LawS4171CAcceptToldWrongFalsely : Prop := Claim7.holds Ybaf.pinned (.plain (OpenSpec.ofChange lawS4171CAcceptWrong)) lawS4171CAcceptCard

/-- THE TOLD AND TIED CARD OF 'plans.LawS4171CRefuse'. -/
def lawS4171CRefuseCard : Claim7 := { stood := { row := lawS4171CRefuseRow, standIns := [], harness := (true, "2097615dcadf964afc94c0f487952bb30ed9d805c01daad9058ed5d9e7ccfbfe"), looks := true }, told := true, laidByText := true, laidKinds := [.data, .sentinel, .sentinel, .sentinel, .sentinel, .sentinel, .sentinel, .sentinel, .pinned], laidTests := true, laidLooks := .later, goes := false }
def LawS4171CRefuseToldSaid : Prop := Claim7.holds Ybaf.pinned (.plain (OpenSpec.ofChange lawS4171CRefuseSpec)) lawS4171CRefuseCard
/-- ITS FALSE NEIGHBOUR. Refute it at one input. -/
def LawS4171CRefuseToldWrongFalsely : Prop := Claim7.holds Ybaf.pinned (.plain (OpenSpec.ofChange lawS4171CRefuseWrong)) lawS4171CRefuseCard
end Rows
end Go.Proofs.YbulkchiyFmt
