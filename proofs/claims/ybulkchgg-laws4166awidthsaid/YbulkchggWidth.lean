/-
  THE CONTRACT OF (*cutInst).width: it reads two cells of its receiver and writes nothing.
-/
import Derived.Test.YbulkchggRows
import Derived.WalkKit
import Derived.WalkSpells
import Derived.WalkLawsBesides
namespace Go.Proofs.Ybulkchgg
open Go.RowKit

def widthOf (l : Bool) (n : Nat) : Int := if l = true ∧ 0 < n then (n : Int) else 17

theorem width_no (b : Nat) (w : World) (h2 : w.cell? ⟨b, 2, none⟩ = some (.bool false)) :
    Calls Yba.prog 5 #[.pointer (some ⟨b, 0, none⟩)] w fun e w' => e = .returned (.int .i64 17) ∧ w' = w := by
  go_enter Yba.func5, Yba.ntmps5
  go_wp2
  go_ret
  exact ⟨rfl, rfl⟩

theorem width_zero (b c : Nat) (ao : Option Addr) (w : World) (h2 : w.cell? ⟨b, 2, none⟩ = some (.bool true)) (h3 : w.cell? ⟨b, 3, none⟩ = some (.slice ao 0 c)) :
    Calls Yba.prog 5 #[.pointer (some ⟨b, 0, none⟩)] w fun e w' => e = .returned (.int .i64 17) ∧ w' = w := by
  go_enter Yba.func5, Yba.ntmps5
  go_wp2
  go_ret
  exact ⟨rfl, rfl⟩

theorem width_yes (b n c : Nat) (ao : Option Addr) (w : World) (hn : ((n : Int) == 0) = false) (h2 : w.cell? ⟨b, 2, none⟩ = some (.bool true)) (h3 : w.cell? ⟨b, 3, none⟩ = some (.slice ao n c)) :
    Calls Yba.prog 5 #[.pointer (some ⟨b, 0, none⟩)] w fun e w' => e = .returned (.int .i64 n) ∧ w' = w := by
  go_enter Yba.func5, Yba.ntmps5
  go_wp2
  go_ret
  exact ⟨rfl, rfl⟩

theorem width_any (b n c : Nat) (l : Bool) (ao : Option Addr) (w : World) (h2 : w.cell? ⟨b, 2, none⟩ = some (.bool l)) (h3 : w.cell? ⟨b, 3, none⟩ = some (.slice ao n c)) :
    Calls Yba.prog 5 #[.pointer (some ⟨b, 0, none⟩)] w fun e w' => e = .returned (.int .i64 (widthOf l n)) ∧ w' = w := by
  cases l with
  | false => exact width_no b w h2
  | true =>
    by_cases hn : n = 0
    · subst hn
      exact width_zero b c ao w h2 h3
    · have hv : widthOf true n = (n : Int) := by simp [widthOf]; omega
      rw [hv]
      exact width_yes b n c ao w (by simp; omega) h2 h3

end Go.Proofs.Ybulkchgg
