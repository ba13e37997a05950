/-
  The law's own function zzs4180afold.
-/
import Derived.Test.YbulkchnuFmtPlain
import Derived.Laws.ShiftsVar
namespace Go.Proofs.YbulkchnuFmt
open Go.RowKit Go.Extern.Stop Go.Stop Go.Extern

theorem fold_any (a : Option Addr) (len cap f s : Nat) (z : List Int) (w : World) (hl : len ≤ 1024) (hf : f ≤ 11) (hs : s ≤ 11) (hz : z.length = len) (hb : ∀ j, 0 ≤ z.getD j 0 ∧ z.getD j 0 ≤ 255)
    (S : len = 0 ∨ ∃ b off, a = some ⟨b, off, none⟩ ∧ ∀ j, j < len → w.cell? ⟨b, off + j, none⟩ = some (.int .u8 (z.getD j 0))) :
    Calls Ybaf.prog 6 #[.slice a len cap, .int .i64 f, .int .i64 s] w fun e w' => e = .returned (.int .u64 (val z f s)) ∧ w' = w := by
  go_enter Ybaf.func6, Ybaf.ntmps6
  go_wp2_with fail
  go_loopw [7, 8] (fun v i wx => ∃ k : Nat, k ≤ s ∧ i = .int .i64 k ∧ v = .int .u64 (fval z f s k) ∧ wx = w) (fun _ i _ => s - (intOf i).toNat)
  case atStart => exact ⟨0, Nat.zero_le _, rfl, by simp [fval, bigE], rfl⟩
  case round =>
    obtain ⟨k, hk, rfl, rfl, rfl⟩ := hrel
    by_cases hlt : k < s
    · by_cases hin : f + k < len
      · obtain ⟨b, off, rfl, hc⟩ : ∃ b off, a = some ⟨b, off, none⟩ ∧ ∀ j, j < len → wr.cell? ⟨b, off + j, none⟩ = some (.int .u8 (z.getD j 0)) := by
          rcases S with h | h
          · omega
          · exact h
        have hck := hc (f + k) hin
        have hbk := hb (f + k)
        have h0 : 0 ≤ z.getD (f + k) 0 := hbk.1
        have h1 : z.getD (f + k) 0 ≤ 255 := hbk.2
        by_cases hp : s - 1 - k < 8
        · have HS : Hid (bits .or .u64 (fval z f s k : Int) (IntKind.u64.wrap (z.getD (f + k) 0 * 2 ^ (8 * (s - 1 - k)))) = (fval z f s (k + 1) : Int)) := fval_succ hb f s k hlt hp
          clear S hc hbk
          generalize z.getD (f + k) 0 = c at hck h0 h1 HS
          go_wp2_with fail
          go_roundw
          case rel => exact ⟨k + 1, by omega, by go_num, by rw [HS.out], trivial⟩
          case measure => simp [intOf]; omega
        · have HS : Hid (fval z f s (k + 1) = fval z f s k) := fval_skip z f s k hlt (by omega)
          clear S hc hbk
          generalize z.getD (f + k) 0 = c at hck h0 h1
          go_wp2_with fail
          go_roundw
          case rel => exact ⟨k + 1, by omega, by go_num, by rw [HS.out], trivial⟩
          case measure => simp [intOf]; omega
      · have hz0 : z.getD (f + k) 0 = 0 := by simp [List.getD, List.getElem?_eq_none (show z.length ≤ f + k by omega)]
        by_cases hp : s - 1 - k < 8
        · have HS0 := fval_succ hb f s k hlt hp
          rw [hz0] at HS0
          have HS : Hid (bits .or .u64 (fval z f s k : Int) (IntKind.u64.wrap (0 * 2 ^ (8 * (s - 1 - k)))) = (fval z f s (k + 1) : Int)) := HS0
          clear S HS0 hz0
          go_wp2_with fail
          go_roundw
          case rel => exact ⟨k + 1, by omega, by go_num, by have := HS.out; simpa [show IntKind.u64.wrap 0 = 0 from rfl] using this, trivial⟩
          case measure => simp [intOf]; omega
        · have HS : Hid (fval z f s (k + 1) = fval z f s k) := fval_skip z f s k hlt (by omega)
          clear S hz0
          go_wp2_with fail
          go_roundw
          case rel => exact ⟨k + 1, by omega, by go_num, by rw [HS.out], trivial⟩
          case measure => simp [intOf]; omega
    · obtain rfl : k = s := by omega
      have HE : Hid (fval z f k k = val z f k) := fval_end z f k
      clear S
      go_wp2_with fail
      go_ret
      exact ⟨by rw [HE.out]; rfl, rfl⟩
end Go.Proofs.YbulkchnuFmt
