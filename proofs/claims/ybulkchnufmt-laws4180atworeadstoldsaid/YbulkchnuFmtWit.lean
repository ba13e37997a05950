/-
  One start that fits the row: the listed variables as the program lays them.
-/
import Derived.Test.YbulkchnuFmtLaid
import Derived.Stop.JoinedAt
import Derived.Stop.Texts
import Derived.Deep.DeepWitnessRef
import Derived.ProofKit
namespace Go.Proofs.YbulkchnuFmt
open Go.ChangeShapes Go.WideShapes Go.ChangeAt Go.RowKit Go.Kit
open Go.Extern.Stop Go.Stop Go.Extern

def formatRow : Array Value := #[.string ⟨#[111, 119, 110, 101, 114, 32, 107, 101, 121]⟩, .string ⟨#[72, 70, 45, 79, 75, 69, 89, 10]⟩, .int .i64 2, .int .i64 1, .bool false, .string ⟨#[109, 101, 116, 97, 100, 97, 116, 97]⟩, .string ⟨#[72, 70, 45, 77, 69, 84, 65, 10]⟩, .int .i64 8, .int .i64 3, .bool false, .string ⟨#[98, 108, 111, 99, 107]⟩, .string ⟨#[72, 70, 45, 66, 76, 67, 75, 10]⟩, .int .i64 3, .int .i64 1, .bool false, .string ⟨#[99, 104, 97, 108, 108, 101, 110, 103, 101]⟩, .string ⟨#[72, 70, 45, 67, 72, 65, 76, 10]⟩, .int .i64 4, .int .i64 4, .bool false, .string ⟨#[118, 101, 114, 105, 102, 105, 101, 114, 32, 115, 116, 97, 116, 101]⟩, .string ⟨#[72, 70, 45, 83, 84, 65, 84, 10]⟩, .int .i64 2, .int .i64 2, .bool false, .string ⟨#[114, 101, 115, 112, 111, 110, 115, 101]⟩, .string ⟨#[72, 70, 45, 82, 69, 83, 80, 10]⟩, .int .i64 3, .int .i64 3, .bool false, .string ⟨#[110, 111, 100, 101, 32, 107, 101, 121]⟩, .string ⟨#[72, 70, 45, 78, 75, 69, 89, 10]⟩, .int .i64 1, .int .i64 1, .bool false, .string ⟨#[112, 117, 98, 108, 105, 99, 32, 107, 101, 121]⟩, .string ⟨#[72, 70, 45, 78, 80, 85, 66, 10]⟩, .int .i64 1, .int .i64 1, .bool false, .string ⟨#[99, 114, 101, 100, 101, 110, 116, 105, 97, 108]⟩, .string ⟨#[72, 70, 45, 67, 82, 69, 68, 10]⟩, .int .i64 2, .int .i64 1, .bool false, .string ⟨#[108, 111, 115, 115, 32, 115, 116, 97, 116, 101, 109, 101, 110, 116]⟩, .string ⟨#[72, 70, 45, 76, 79, 83, 83, 10]⟩, .int .i64 1, .int .i64 1, .bool false, .string ⟨#[114, 101, 112, 97, 105, 114, 32, 111, 114, 100, 101, 114]⟩, .string ⟨#[72, 70, 45, 79, 82, 68, 82, 10]⟩, .int .i64 1, .int .i64 1, .bool false, .string ⟨#[119, 97, 116, 99, 104, 32, 115, 116, 97, 116, 101]⟩, .string ⟨#[72, 70, 45, 87, 84, 67, 72, 10]⟩, .int .i64 1, .int .i64 1, .bool false, .string ⟨#[99, 111, 112, 121, 32, 114, 101, 99, 111, 114, 100]⟩, .string ⟨#[72, 70, 45, 67, 82, 69, 67, 10]⟩, .int .i64 2, .int .i64 1, .bool false, .string ⟨#[99, 104, 97, 108, 108, 101, 110, 103, 101, 32, 109, 97, 114, 107]⟩, .string ⟨#[72, 70, 45, 77, 65, 82, 75, 10]⟩, .int .i64 1, .int .i64 1, .bool false, .string ⟨#[99, 104, 97, 108, 108, 101, 110, 103, 101, 32, 108, 111, 103]⟩, .string ⟨#[72, 70, 45, 67, 76, 79, 71, 10]⟩, .int .i64 1, .int .i64 1, .bool false, .string ⟨#[112, 117, 115, 104, 32, 114, 101, 113, 117, 101, 115, 116]⟩, .string ⟨#[72, 70, 45, 80, 85, 83, 72, 10]⟩, .int .i64 1, .int .i64 1, .bool true, .string ⟨#[112, 114, 111, 111, 102, 32, 114, 101, 113, 117, 101, 115, 116]⟩, .string ⟨#[72, 70, 45, 80, 82, 69, 81, 10]⟩, .int .i64 3, .int .i64 3, .bool true, .string ⟨#[102, 101, 116, 99, 104, 32, 114, 101, 113, 117, 101, 115, 116]⟩, .string ⟨#[72, 70, 45, 70, 82, 69, 81, 10]⟩, .int .i64 2, .int .i64 2, .bool true, .string ⟨#[114, 101, 112, 108, 121]⟩, .string ⟨#[72, 70, 45, 82, 80, 76, 89, 10]⟩, .int .i64 3, .int .i64 1, .bool true, .string ⟨#[115, 105, 103, 110, 101, 100]⟩, .string ⟨#[72, 70, 45, 83, 73, 71, 78, 10]⟩, .int .i64 1, .int .i64 1, .bool true]

noncomputable def laidWorld (os : Os) : World :=
  let N := (World.settled Ybaf.prog os).heap.size
  let w0 := World.holding Ybaf.prog os ⟨#[.cells #[.string ⟨#[115, 104, 111, 114, 116, 32, 98, 117, 102, 102, 101, 114]⟩] 50, .cells #[.string ⟨#[69, 79, 70]⟩] 50, .cells #[.string ⟨#[117, 110, 101, 120, 112, 101, 99, 116, 101, 100, 32, 69, 79, 70]⟩] 50, .cells #[.string ⟨#[109, 97, 108, 102, 111, 114, 109, 101, 100]⟩] 50, .cells formatRow 73], #[], []⟩
  let put (h : Array Obj) (g : Nat) (cs : Array Value) : Array Obj := h.modify g fun
    | .cells _ t frozen => .cells cs t frozen
    | o => o
  let h0 := put w0.heap 0 #[.iface 48 (.pointer (some ⟨N + 3, 0, none⟩))]
  let h1 := put h0 1 #[.iface 48 (.pointer (some ⟨N + 1, 0, none⟩))]
  let h2 := put h1 2 #[.iface 48 (.pointer (some ⟨N + 2, 0, none⟩))]
  let h3 := put h2 3 #[.iface 48 (.pointer (some ⟨N, 0, none⟩))]
  let h4 := put h3 4 #[.slice (some ⟨N + 4, 0, none⟩) 20 20]
  { w0 with heap := h4 }

abbrev args0 : Array Value := #[.slice none 0 0, .int .u8 0, .int .u8 0]

set_option maxRecDepth 1000000 in
theorem laid_met (os : Os) : laidMet Ybaf.prog Rows.lawS4180ATwoReadsRow.laid ((laidWorld os).forCall (fun _ _ => 0) ⟨#[], args0, []⟩).memory :=
  laidMet_of_run' 10 (by kernel_rfl) (by kernel_rfl)

theorem laid_metH (os : Os) : laidMetH Ybaf.prog Rows.lawS4180ATwoReadsRow.laid ((laidWorld os).forCall (fun _ _ => 0) ⟨#[], args0, []⟩).memory := laid_met os

set_option maxRecDepth 1000000 in
theorem witness (os : Os) {H : Type} (enc : TypeId × Value → H) (F : Stop.Interp) :
    ∃ (w : World) (tape : Tape) (i : Input), w.os = os ∧ (w.forCall tape i).Shaped Ybaf.checked.prog ∧ i.vars = [] ∧ Input.okWide Ybaf.checked.prog (w.forCall tape i) .any w.heap.size 3 i ∧
      (OpenSpec.ofChange Rows.lawS4180ATwoReadsSpec).preRow enc Ybaf.checked.prog Ybaf.f3 [] false Rows.lawS4180ATwoReadsRow.laid (w.forCall tape i).memory i.args ∧ ({ modest := false } : Assume).holds Ybaf.checked.prog (lone (Frame.enter Ybaf.checked.prog 3 i.args .normal) [] (w.forCall tape i)) ∧ F.answers tape :=
  OpenSpec.witness_stopped_atRef (enc := enc) (C := Ybaf.checked) false (laidWorld os) args0 rfl (by kernel_rfl) (by kernel_rfl) (by kernel_rfl)
    (OpenSpec.preRow_of_B rfl 10 (by kernel_rfl) (by kernel_rfl) (laid_metH os)) F
end Go.Proofs.YbulkchnuFmt
