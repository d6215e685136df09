/-
  DERIVED. GIVEN WITH THE SEED: THE CARDS: each row of YbulkapjgFmtRows.lean that lists a variable, with what it lists TIED to the program's text (the seventh form; the later family's looks); each row that meets fmt, with fmt's text TOLD by the authors' own Lean function (tested against real Go, not proved from fmt's source: count such statements apart). THE CARD IS WHAT COUNTS. Prove the row's statement (the work); the ties are given (YbulkapjgFmtTie.lean); close each card by the builder's one call (the guide's Derived/Test/ToyasCard.lean, 'card_holds'). Laid BY PROGRAM, IN A SANDBOX (cutbox-door.mjs). By AI agents, Wed Nov 11 2026. No macro, syntax, notation, axiom, sorry.
-/
import Derived.Test.YbulkapjgFmtRows
import GoSem.ClaimSeven
namespace Go.Proofs.YbulkapjgFmt
namespace Rows

/-- THE TOLD CARD OF 'capmax.LawS2047BOptimal'. -/
def lawS2047BOptimalCard : Claim7 := { stood := { row := lawS2047BOptimalRow, standIns := [], harness := (true, "5e2820ae69756c941deac23234ca7af74d9a2676021c99b60dbcff8ed90e56c0"), looks := true }, told := true, goes := false }
def LawS2047BOptimalToldSaid : Prop := Claim7.holds Ybaf.pinned (.plain (OpenSpec.ofChange lawS2047BOptimalSpec)) lawS2047BOptimalCard
/-- ITS FALSE NEIGHBOUR. Refute it at one input. -/
def LawS2047BOptimalToldWrongFalsely : Prop := Claim7.holds Ybaf.pinned (.plain (OpenSpec.ofChange lawS2047BOptimalWrong)) lawS2047BOptimalCard

/-- THE TOLD CARD OF 'capmax.LawS2047BVector'. -/
def lawS2047BVectorCard : Claim7 := { stood := { row := lawS2047BVectorRow, standIns := [], harness := (true, "5e2820ae69756c941deac23234ca7af74d9a2676021c99b60dbcff8ed90e56c0"), looks := true }, told := true, goes := false }
def LawS2047BVectorToldSaid : Prop := Claim7.holds Ybaf.pinned (.plain (OpenSpec.ofChange lawS2047BVectorSpec)) lawS2047BVectorCard
/-- ITS FALSE NEIGHBOUR. Refute it at one input. -/
def LawS2047BVectorToldWrongFalsely : Prop := Claim7.holds Ybaf.pinned (.plain (OpenSpec.ofChange lawS2047BVectorWrong)) lawS2047BVectorCard

/-- THE TOLD AND TIED CARD OF 'capmax.LawS2047CPassThrough'. -/
def lawS2047CPassThroughCard : Claim7 := { stood := { row := lawS2047CPassThroughRow, standIns := [], harness := (true, "5e2820ae69756c941deac23234ca7af74d9a2676021c99b60dbcff8ed90e56c0"), looks := true }, told := true, laidByText := true, laidKinds := [.handle, .sentinel, .sentinel], laidTests := true, laidLooks := .later, goes := false }
def LawS2047CPassThroughToldSaid : Prop := Claim7.holds Ybaf.pinned (.plain (OpenSpec.ofChange lawS2047CPassThroughSpec)) lawS2047CPassThroughCard
/-- ITS FALSE NEIGHBOUR. Refute it at one input. -/
def LawS2047CPassThroughToldWrongFalsely : Prop := Claim7.holds Ybaf.pinned (.plain (OpenSpec.ofChange lawS2047CPassThroughWrong)) lawS2047CPassThroughCard

/-- THE TOLD AND TIED CARD OF 'capmax.LawS2047CParse'. -/
def lawS2047CParseCard : Claim7 := { stood := { row := lawS2047CParseRow, standIns := [], harness := (true, "5e2820ae69756c941deac23234ca7af74d9a2676021c99b60dbcff8ed90e56c0"), looks := true }, told := true, laidByText := true, laidKinds := [.handle, .sentinel, .sentinel], laidTests := true, laidLooks := .later, goes := false }
def LawS2047CParseToldSaid : Prop := Claim7.holds Ybaf.pinned (.plain (OpenSpec.ofChange lawS2047CParseSpec)) lawS2047CParseCard
/-- ITS FALSE NEIGHBOUR. Refute it at one input. -/
def LawS2047CParseToldWrongFalsely : Prop := Claim7.holds Ybaf.pinned (.plain (OpenSpec.ofChange lawS2047CParseWrong)) lawS2047CParseCard

/-- THE TOLD AND TIED CARD OF 'capmax.LawS2047CTooLong'. -/
def lawS2047CTooLongCard : Claim7 := { stood := { row := lawS2047CTooLongRow, standIns := [], harness := (true, "5e2820ae69756c941deac23234ca7af74d9a2676021c99b60dbcff8ed90e56c0"), looks := true }, told := true, laidByText := true, laidKinds := [.handle, .sentinel, .sentinel], laidTests := true, laidLooks := .later, goes := false }
def LawS2047CTooLongToldSaid : Prop := Claim7.holds Ybaf.pinned (.plain (OpenSpec.ofChange lawS2047CTooLongSpec)) lawS2047CTooLongCard
/-- ITS FALSE NEIGHBOUR. Refute it at one input. -/
def LawS2047CTooLongToldWrongFalsely : Prop := Claim7.holds Ybaf.pinned (.plain (OpenSpec.ofChange lawS2047CTooLongWrong)) lawS2047CTooLongCard
end Rows
end Go.Proofs.YbulkapjgFmt
