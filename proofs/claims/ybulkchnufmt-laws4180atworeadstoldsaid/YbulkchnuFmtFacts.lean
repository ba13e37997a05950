/-
  THE CLOSED FACTS FOR A WALK OVER fmt's STOPPED FRONTS at this dump's numbers (after the kit's worked GuardFmt; the tool that writes it is not in this kit), and fmt.Errorf's contract at "%w %s: %s".
-/
import Derived.Test.YbulkchnuFmtIs
import Derived.Stop.CallBack
import Derived.Stop.IfaceNil
import Derived.WalkSpells
import GoSem.ClaimData
namespace Go.Proofs.YbulkchnuFmt
open Go.RowKit Go.Extern.Stop Go.Stop Go.Extern

@[go_sem] theorem Ybaf.call17 (args : Array Value) (w : World) : (callFunc 17 args).run Ybaf.prog w = ((FmtStop.sprintf #[9, 67] #[9] args).run Ybaf.prog w).andThen fun v w' => .ok (.value v) w' :=
  run_callFunc_extern Ybaf.func17 (by kernel_rfl) (by kernel_rfl) (by kernel_rfl) (by kernel_rfl) args w
@[go_sem] theorem Ybaf.call18 (args : Array Value) (w : World) : (callFunc 18 args).run Ybaf.prog w = ((FmtStop.errorf #[9, 67] #[31] args).run Ybaf.prog w).andThen fun v w' => .ok (.value v) w' :=
  run_callFunc_extern Ybaf.func18 (by kernel_rfl) (by kernel_rfl) (by kernel_rfl) (by kernel_rfl) args w
@[go_sem] theorem Ybaf.guard (name : String) (w : World) : (FmtStop.guard name).run Ybaf.prog w = .ok () w := by kernel_rfl

@[go_sem] theorem Ybaf.fmt0 : FmtStop.printed? ⟨#[37, 119, 32, 37, 115, 58, 32, 37, 115]⟩ 3 = some [(0, 119, false), (1, 115, false), (2, 115, false)] := by kernel_rfl
@[go_sem] theorem Ybaf.fmt0r (w : World) : (FmtDoors.printed ⟨#[37, 119, 32, 37, 115, 58, 32, 37, 115]⟩ 3).run Ybaf.prog w = .ok [(0, 119, false), (1, 115, false), (2, 115, false)] w := by kernel_rfl
@[go_sem] theorem Ybaf.fmt1 : FmtStop.printed? ⟨#[105, 116, 32, 101, 110, 100, 115, 32, 101, 97, 114, 108, 121]⟩ 0 = some [] := by kernel_rfl
@[go_sem] theorem Ybaf.fmt1r (w : World) : (FmtDoors.printed ⟨#[105, 116, 32, 101, 110, 100, 115, 32, 101, 97, 114, 108, 121]⟩ 0).run Ybaf.prog w = .ok [] w := by kernel_rfl

theorem Ybaf.name9 : Ybaf.prog.typeName? 3 9 = some "string" := by kernel_rfl
def Ybaf.shape9 : List UInt8 := [12, 6, 0, 0, 0, 0, 0, 0, 0, 115, 116, 114, 105, 110, 103]
@[go_sem] theorem Ybaf.op9_115w (name : String) (x : ByteArray) (w : World) : (FmtStop.operand name true 115 false (.iface 9 (.string x))).run Ybaf.prog w = .ok (Ybaf.shape9, FmtStop.pack x.data.toList) w := by kernel_rfl

@[go_sem] theorem Ybaf.ptr48 (w : World) : (FmtStop.ptrTo "errors.errorString").run Ybaf.prog w = .ok 48 w := by kernel_rfl
@[go_sem] theorem Ybaf.elem48 (w : World) : (elemOf 48).run Ybaf.prog w = .ok 50 w := by kernel_rfl
@[go_sem] theorem Ybaf.isError48' (w : World) : (FmtDoors.textMethod 48 "Error").run Ybaf.prog w = .ok true w := by kernel_rfl
def Ybaf.plain48 : List UInt8 := 14 :: FmtStop.pack "*errors.errorString".toUTF8.data.toList
theorem Ybaf.opPlain48_119w (name : String) (a : Addr) (s : ByteArray) (w : World) (hc : w.cell? a = some (.string s)) :
    (FmtStop.operand name true 119 false (.iface 48 (.pointer (some a)))).run Ybaf.prog w = .ok (Ybaf.plain48, s.data.toList) w := by
  have h1 : (typeStr 48).run Ybaf.prog w = .ok "*errors.errorString" w := by kernel_rfl
  have d2 : Ybaf.t48.desc = .pointer 50 := rfl
  have d3 : Ybaf.t50.desc = .named "errors.errorString" 49 := rfl
  simp [FmtStop.operand, h1, d2, d3, run_load, hc, Ybaf.plain48]
@[go_sem] theorem Ybaf.ptr70 (w : World) : (FmtStop.ptrTo "fmt.wrapError").run Ybaf.prog w = .ok 70 w := by kernel_rfl
@[go_sem] theorem Ybaf.elem70 (w : World) : (elemOf 70).run Ybaf.prog w = .ok 103 w := by kernel_rfl
@[go_sem] theorem Ybaf.isError70' (w : World) : (FmtDoors.textMethod 70 "Error").run Ybaf.prog w = .ok true w := by kernel_rfl

/-- fmt.Errorf("%w %s: %s", ErrX, n, t). -/
theorem errorf_any (F : Interp) (blk : Nat) (a : Addr) (n t s : ByteArray) (w : World) (hF : F.answers w.tape) (c0 : w.cell? ⟨blk, 0, none⟩ = some (.iface 48 (.pointer (some a)))) (c1 : w.cell? ⟨blk, 1, none⟩ = some (.iface 9 (.string n))) (c2 : w.cell? ⟨blk, 2, none⟩ = some (.iface 9 (.string t))) (hs : w.cell? a = some (.string s)) :
    Calls Ybaf.prog 14 #[.string ⟨#[37, 119, 32, 37, 115, 58, 32, 37, 115]⟩, .slice (some ⟨blk, 0, none⟩) 3 3] w fun e w' => e = .returned (.iface 70 (.pointer (some ⟨w.heap.size, 0, none⟩))) ∧
      ∃ x : ByteArray, w' = (w.alloc (.cells #[.string x, .iface 48 (.pointer (some a))] 103)).drew := by
  have hF' := answers_open hF
  have hop := Ybaf.opPlain48_119w "fmt.errorf" a s _ hs
  go_enter Ybaf.func14, Ybaf.ntmps14
  go_wp2
  go_ret
  exact ⟨rfl, _, rfl⟩

/-- fmt.Sprintf("it ends early"). -/
theorem sprintf_any (F : Interp) (w : World) (hF : F.answers w.tape) : ∃ x : ByteArray, (callFunc 17 #[.string ⟨#[105, 116, 32, 101, 110, 100, 115, 32, 101, 97, 114, 108, 121]⟩, .slice none 0 0]).run Ybaf.prog w = .ok (.value (.string x)) w.drew := by
  have hF' := answers_open hF
  refine ⟨FmtStop.textOf (F "fmt.Sprintf" [[105, 116, 32, 101, 110, 100, 115, 32, 101, 97, 114, 108, 121]] 0), ?_⟩
  simp [go_sem, hF']
end Go.Proofs.YbulkchnuFmt
