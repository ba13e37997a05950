/-
  No cell of these rows narrows 'for every input' (looked for: loops, veiled, ifaces, maps, wideKeys, modest, calm, conditions, laid).
  DERIVED. THE GIVEN ROWS OF THIS SEAT. 3 by the template 'for every input the law returns true; each argument reads behind the call as it read before'; 0 by the template 'total and deterministic' (their statements: YbulkchguTotals.lean).
  GIVEN WITH THE SEED: the statements are not yours to turn. If you find one false, say at which input.
  Laid BY PROGRAM, IN A SANDBOX (cutbox-rows.mjs): the forced cells as the released guide's own fill.sh prints them over the translation 5ae32f900108ba71… (all of the seat's roots in one cut). By AI agents, Wed Nov 11 2026. No macro, syntax, notation, axiom, sorry.
-/
import Derived.Test.YbulkchguChecked
import GoSem.Claim
import GoSem.ClaimJoined
import GoSem.ClaimMapViews
import Derived.JoinedTies
import Derived.KernelRfl
namespace Go.Proofs.Ybulkchgu
/- THE CELL 'sum', in the pinned program and in every row, IS THE sha256 OF THE DUMP (.gsa) THAT YbulkchguProg.lean LOADS. Nothing in Lean hashes anything: it is a label: what it is worth is what the hold of that sum in a sandbox is worth. -/
noncomputable def Yba.pinned : Pinned := { name := "ybulkchgu", sum := "5ae32f900108ba71ba016acb729a4511410fe050fa86be3ad6c330680e2ae35f", checked := Yba.checked }
namespace Rows
def none {H : Type} : Left H := { results := [], args := [] }

/-- 'policy.LawS4167AModel': WHATEVER THE INPUT: true; the input reads as it did. -/
def lawS4167AModelSpec : ChangeSpec := { name := "lawS4167AModel", fn := fun _ => fun
  | [d] => { results := [.lit (.bool true)], args := [d] }
  | _ => none }
def lawS4167AModelRow : OpenClaim := { program := "ybulkchgu", sum := "5ae32f900108ba71ba016acb729a4511410fe050fa86be3ad6c330680e2ae35f", func := "example.com/latchkey/latchkey/policy.LawS4167AModel", spec := "lawS4167AModel", apart := false }
def LawS4167AModelSaid : Prop := lawS4167AModelRow.holds Yba.pinned (OpenSpec.ofChange lawS4167AModelSpec)

/-- ITS FALSE NEIGHBOUR: 'it returns false'. Refute it at one input. -/
def lawS4167AModelWrong : ChangeSpec := { name := "lawS4167AModel", fn := fun _ => fun
  | [d] => { results := [.lit (.bool false)], args := [d] }
  | _ => none }
def LawS4167AModelWrongFalsely : Prop := lawS4167AModelRow.holds Yba.pinned (OpenSpec.ofChange lawS4167AModelWrong)

/-- 'policy.LawS4167ABuilt': WHATEVER THE INPUT: true; the input reads as it did. -/
def lawS4167ABuiltSpec : ChangeSpec := { name := "lawS4167ABuilt", fn := fun _ => fun
  | [d] => { results := [.lit (.bool true)], args := [d] }
  | _ => none }
def lawS4167ABuiltRow : OpenClaim := { program := "ybulkchgu", sum := "5ae32f900108ba71ba016acb729a4511410fe050fa86be3ad6c330680e2ae35f", func := "example.com/latchkey/latchkey/policy.LawS4167ABuilt", spec := "lawS4167ABuilt", apart := false }
def LawS4167ABuiltSaid : Prop := lawS4167ABuiltRow.holds Yba.pinned (OpenSpec.ofChange lawS4167ABuiltSpec)

/-- ITS FALSE NEIGHBOUR: 'it returns false'. Refute it at one input. -/
def lawS4167ABuiltWrong : ChangeSpec := { name := "lawS4167ABuilt", fn := fun _ => fun
  | [d] => { results := [.lit (.bool false)], args := [d] }
  | _ => none }
def LawS4167ABuiltWrongFalsely : Prop := lawS4167ABuiltRow.holds Yba.pinned (OpenSpec.ofChange lawS4167ABuiltWrong)

/-- 'policy.LawS4167ADigitPrefix': WHATEVER THE INPUT: true; the input reads as it did. -/
def lawS4167ADigitPrefixSpec : ChangeSpec := { name := "lawS4167ADigitPrefix", fn := fun _ => fun
  | [d] => { results := [.lit (.bool true)], args := [d] }
  | _ => none }
def lawS4167ADigitPrefixRow : OpenClaim := { program := "ybulkchgu", sum := "5ae32f900108ba71ba016acb729a4511410fe050fa86be3ad6c330680e2ae35f", func := "example.com/latchkey/latchkey/policy.LawS4167ADigitPrefix", spec := "lawS4167ADigitPrefix", apart := false }
def LawS4167ADigitPrefixSaid : Prop := lawS4167ADigitPrefixRow.holds Yba.pinned (OpenSpec.ofChange lawS4167ADigitPrefixSpec)

/-- ITS FALSE NEIGHBOUR: 'it returns false'. Refute it at one input. -/
def lawS4167ADigitPrefixWrong : ChangeSpec := { name := "lawS4167ADigitPrefix", fn := fun _ => fun
  | [d] => { results := [.lit (.bool false)], args := [d] }
  | _ => none }
def LawS4167ADigitPrefixWrongFalsely : Prop := lawS4167ADigitPrefixRow.holds Yba.pinned (OpenSpec.ofChange lawS4167ADigitPrefixWrong)

end Rows
end Go.Proofs.Ybulkchgu
