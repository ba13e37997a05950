/-
  No cell of these rows narrows 'for every input' (looked for: loops, veiled, ifaces, maps, wideKeys, modest, calm, conditions, laid).
  DERIVED. THE GIVEN ROWS OF THIS SEAT. 1 by the template 'for every input the law returns true; each argument reads behind the call as it read before'; 0 by the template 'total and deterministic' (their statements: YbulkchjmFmtTotals.lean).
  GIVEN WITH THE SEED: the statements are not yours to turn. If you find one false, say at which input.
  Laid BY PROGRAM, IN A SANDBOX (cutbox-rows.mjs): the forced cells as the released guide's own fill.sh prints them over the translation eec5a3a5176b755d… (all of the seat's roots in one cut). By AI agents, Wed Nov 11 2026. No macro, syntax, notation, axiom, sorry.
-/
import Derived.Test.YbulkchjmFmtChecked
import GoSem.Claim
import GoSem.ClaimJoined
import GoSem.ClaimMapViews
import Derived.JoinedTies
import Derived.KernelRfl
namespace Go.Proofs.YbulkchjmFmt
/- THE CELL 'sum', in the pinned program and in every row, IS THE sha256 OF THE DUMP (.gsa) THAT YbulkchjmFmtProg.lean LOADS. Nothing in Lean hashes anything: it is a label: what it is worth is what the hold of that sum in a sandbox is worth. -/
noncomputable def Ybaf.pinned : Pinned := { name := "ybulkchjmfmt", sum := "eec5a3a5176b755d0c57c3cfe196c2d6141b17f3c36ae13349c1d5c175df32a1", checked := Ybaf.checked }
namespace Rows
def none {H : Type} : Left H := { results := [], args := [] }

/-- 'serve.LawS4172BScript': WHATEVER THE INPUT: true; the input reads as it did. -/
def lawS4172BScriptSpec : ChangeSpec := { name := "lawS4172BScript", fn := fun _ => fun
  | [d1, d2, d3] => { results := [.lit (.bool true)], args := [d1, d2, d3] }
  | _ => none }
def lawS4172BScriptRow : OpenClaim := { program := "ybulkchjmfmt", sum := "eec5a3a5176b755d0c57c3cfe196c2d6141b17f3c36ae13349c1d5c175df32a1", func := "example.com/evenkeel/evenkeel/serve.LawS4172BScript", spec := "lawS4172BScript", stops := ["fmt.Sprintf"], inPlace := ["math.archMax", "math.Float64bits", "math.Float64frombits", "fmt.Sprintf"], unfollowed := true, recurses := true, apart := false }
/-- NO THEOREM (fmt's text is open here; it may be false): for the released tool's asking of the row's closed facts alone. THE STATEMENT IS 'LawS4172BScriptToldSaid' (YbulkchjmFmtCards.lean). -/
def LawS4172BScriptFormAsk : Prop := lawS4172BScriptRow.holds Ybaf.pinned (OpenSpec.ofChange lawS4172BScriptSpec)

/-- ITS FALSE NEIGHBOUR: 'it returns false'. Refute it at one input. -/
def lawS4172BScriptWrong : ChangeSpec := { name := "lawS4172BScript", fn := fun _ => fun
  | [d1, d2, d3] => { results := [.lit (.bool false)], args := [d1, d2, d3] }
  | _ => none }
def LawS4172BScriptWrongFormAsk : Prop := lawS4172BScriptRow.holds Ybaf.pinned (OpenSpec.ofChange lawS4172BScriptWrong)

end Rows
end Go.Proofs.YbulkchjmFmt
