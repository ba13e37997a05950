/-
  No cell of these rows narrows 'for every input' (looked for: loops, veiled, ifaces, maps, wideKeys, modest, calm, conditions, laid).
  DERIVED. THE GIVEN ROWS OF THIS SEAT. 2 by the template 'for every input the law returns true; each argument reads behind the call as it read before'; 0 by the template 'total and deterministic' (their statements: YbulkchggTotals.lean).
  GIVEN WITH THE SEED: the statements are not yours to turn. If you find one false, say at which input.
  Laid BY PROGRAM, IN A SANDBOX (cutbox-rows.mjs): the forced cells as the released guide's own fill.sh prints them over the translation c48e4a9c62030c6c… (all of the seat's roots in one cut). By AI agents, Wed Nov 11 2026. No macro, syntax, notation, axiom, sorry.
-/
import Derived.Test.YbulkchggChecked
import GoSem.Claim
import GoSem.ClaimJoined
import GoSem.ClaimMapViews
import Derived.JoinedTies
import Derived.KernelRfl
namespace Go.Proofs.Ybulkchgg
/- THE CELL 'sum', in the pinned program and in every row, IS THE sha256 OF THE DUMP (.gsa) THAT YbulkchggProg.lean LOADS. Nothing in Lean hashes anything: it is a label: what it is worth is what the hold of that sum in a sandbox is worth. -/
noncomputable def Yba.pinned : Pinned := { name := "ybulkchgg", sum := "c48e4a9c62030c6cbce926274a5faafdcfd1e0ecc0382cc3e917d5cc2bd3774c", checked := Yba.checked }
namespace Rows
def none {H : Type} : Left H := { results := [], args := [] }

/-- 'query.LawS4166AWidth': WHATEVER THE INPUT: true; the input reads as it did. -/
def lawS4166AWidthSpec : ChangeSpec := { name := "lawS4166AWidth", fn := fun _ => fun
  | [d1, d2, d3, d4] => { results := [.lit (.bool true)], args := [d1, d2, d3, d4] }
  | _ => none }
def lawS4166AWidthRow : OpenClaim := { program := "ybulkchgg", sum := "c48e4a9c62030c6cbce926274a5faafdcfd1e0ecc0382cc3e917d5cc2bd3774c", func := "example.com/gramsieve/gramsieve/pkg/query.LawS4166AWidth", spec := "lawS4166AWidth", apart := false }
def LawS4166AWidthSaid : Prop := lawS4166AWidthRow.holds Yba.pinned (OpenSpec.ofChange lawS4166AWidthSpec)

/-- ITS FALSE NEIGHBOUR: 'it returns false'. Refute it at one input. -/
def lawS4166AWidthWrong : ChangeSpec := { name := "lawS4166AWidth", fn := fun _ => fun
  | [d1, d2, d3, d4] => { results := [.lit (.bool false)], args := [d1, d2, d3, d4] }
  | _ => none }
def LawS4166AWidthWrongFalsely : Prop := lawS4166AWidthRow.holds Yba.pinned (OpenSpec.ofChange lawS4166AWidthWrong)

/-- 'query.LawS4166AUnlisted': WHATEVER THE INPUT: true; the input reads as it did. -/
def lawS4166AUnlistedSpec : ChangeSpec := { name := "lawS4166AUnlisted", fn := fun _ => fun
  | [d1, d2] => { results := [.lit (.bool true)], args := [d1, d2] }
  | _ => none }
def lawS4166AUnlistedRow : OpenClaim := { program := "ybulkchgg", sum := "c48e4a9c62030c6cbce926274a5faafdcfd1e0ecc0382cc3e917d5cc2bd3774c", func := "example.com/gramsieve/gramsieve/pkg/query.LawS4166AUnlisted", spec := "lawS4166AUnlisted", apart := false }
def LawS4166AUnlistedSaid : Prop := lawS4166AUnlistedRow.holds Yba.pinned (OpenSpec.ofChange lawS4166AUnlistedSpec)

/-- ITS FALSE NEIGHBOUR: 'it returns false'. Refute it at one input. -/
def lawS4166AUnlistedWrong : ChangeSpec := { name := "lawS4166AUnlisted", fn := fun _ => fun
  | [d1, d2] => { results := [.lit (.bool false)], args := [d1, d2] }
  | _ => none }
def LawS4166AUnlistedWrongFalsely : Prop := lawS4166AUnlistedRow.holds Yba.pinned (OpenSpec.ofChange lawS4166AUnlistedWrong)

end Rows
end Go.Proofs.Ybulkchgg
