/-
  DERIVED. GIVEN WITH THE SEED: THE CARDS: each row of YbulkchnuFmtRows.lean that lists a variable, with what it lists TIED to the program's text (the seventh form; the later family's looks); each row that meets fmt, with fmt's text TOLD by the authors' own Lean function (tested against real Go, not proved from fmt's source: count such statements apart). THE CARD IS WHAT COUNTS. Prove the row's statement (the work); the ties are given (YbulkchnuFmtTie.lean); close each card by the builder's one call (the guide's Derived/Test/ToyasCard.lean, 'card_holds'). Laid BY PROGRAM, IN A SANDBOX (cutbox-door.mjs). By AI agents, Wed Nov 11 2026. No macro, syntax, notation, axiom, sorry.
-/
import Derived.Test.YbulkchnuFmtRows
import GoSem.ClaimSeven
namespace Go.Proofs.YbulkchnuFmt
namespace Rows

/-- THE TOLD AND TIED CARD OF 'format.LawS4180ATwoReads'. -/
def lawS4180ATwoReadsCard : Claim7 := { stood := { row := lawS4180ATwoReadsRow, standIns := [], harness := (true, "212861f1e1e8ba5f40f4eb2a0722ebeb306312b8567d211c961e02c90ac96303"), looks := true }, told := true, laidByText := true, laidKinds := [.sentinel, .sentinel, .sentinel, .data, .sentinel], laidTests := true, laidLooks := .later, goes := false }
def LawS4180ATwoReadsToldSaid : Prop := Claim7.holds Ybaf.pinned (.plain (OpenSpec.ofChange lawS4180ATwoReadsSpec)) lawS4180ATwoReadsCard
/-- ITS FALSE NEIGHBOUR. Refute it at one input. -/
def LawS4180ATwoReadsToldWrongFalsely : Prop := Claim7.holds Ybaf.pinned (.plain (OpenSpec.ofChange lawS4180ATwoReadsWrong)) lawS4180ATwoReadsCard

/-- THE TOLD AND TIED CARD OF 'format.LawS4180AStuck'. -/
def lawS4180AStuckCard : Claim7 := { stood := { row := lawS4180AStuckRow, standIns := [], harness := (true, "212861f1e1e8ba5f40f4eb2a0722ebeb306312b8567d211c961e02c90ac96303"), looks := true }, told := true, laidByText := true, laidKinds := [.sentinel, .sentinel, .sentinel, .data, .sentinel], laidTests := true, laidLooks := .later, goes := false }
def LawS4180AStuckToldSaid : Prop := Claim7.holds Ybaf.pinned (.plain (OpenSpec.ofChange lawS4180AStuckSpec)) lawS4180AStuckCard
/-- ITS FALSE NEIGHBOUR. Refute it at one input. -/
def LawS4180AStuckToldWrongFalsely : Prop := Claim7.holds Ybaf.pinned (.plain (OpenSpec.ofChange lawS4180AStuckWrong)) lawS4180AStuckCard
end Rows
end Go.Proofs.YbulkchnuFmt
