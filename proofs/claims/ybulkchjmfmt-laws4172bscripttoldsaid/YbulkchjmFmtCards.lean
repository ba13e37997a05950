/-
  DERIVED. GIVEN WITH THE SEED: THE CARDS: each row of YbulkchjmFmtRows.lean that lists a variable, with what it lists TIED to the program's text (the seventh form; the later family's looks); each row that meets fmt, with fmt's text TOLD by the authors' own Lean function (tested against real Go, not proved from fmt's source: count such statements apart). THE CARD IS WHAT COUNTS. Prove the row's statement (the work); the ties are given (YbulkchjmFmtTie.lean); close each card by the builder's one call (the guide's Derived/Test/ToyasCard.lean, 'card_holds'). Laid BY PROGRAM, IN A SANDBOX (cutbox-door.mjs). By AI agents, Wed Nov 11 2026. No macro, syntax, notation, axiom, sorry.
-/
import Derived.Test.YbulkchjmFmtRows
import GoSem.ClaimSeven
namespace Go.Proofs.YbulkchjmFmt
namespace Rows

/-- THE TOLD CARD OF 'serve.LawS4172BScript'. -/
def lawS4172BScriptCard : Claim7 := { stood := { row := lawS4172BScriptRow, standIns := [], harness := (true, "26e65f90384c072609d91a156ac7949212644af407bb83b4cdb54f8f2225ec88"), looks := false }, told := true, goes := false }
def LawS4172BScriptToldSaid : Prop := Claim7.holds Ybaf.pinned (.plain (OpenSpec.ofChange lawS4172BScriptSpec)) lawS4172BScriptCard
/-- ITS FALSE NEIGHBOUR. Refute it at one input. -/
def LawS4172BScriptToldWrongFalsely : Prop := Claim7.holds Ybaf.pinned (.plain (OpenSpec.ofChange lawS4172BScriptWrong)) lawS4172BScriptCard
end Rows
end Go.Proofs.YbulkchjmFmt
