/-
  Decoder.Unsigned.
-/
import Derived.Test.YbulkchnuFmtBytes
import Derived.Test.YbulkchnuFmtPlain
namespace Go.Proofs.YbulkchnuFmt
open Go.RowKit Go.Extern.Stop Go.Stop Go.Extern

theorem buf_cell {w : World} {bb k s j : Nat} {z : List Int} (h : w.heap[bb]? = some (.cells (bufOf z k s).toArray 5 (0, 0))) (hj : j < s) : w.cell? ⟨bb, j, none⟩ = some (.int .u8 (z.getD (k + j) 0)) := by
  rw [cell_of_row w bb j _ 5 (0, 0) h]
  simp [bufOf, hj]

theorem unsigned_of (bb k s : Nat) (d : Value) (z : List Int) (hz : ∀ j, 0 ≤ z.getD j 0 ∧ z.getD j 0 ≤ 255) (hs : s ≤ 11) (w : World) (P : World → Prop)
    (hcall : Calls Ybaf.prog 9 #[d, .int .i64 s] w fun e w' => e = .returned (.slice (some ⟨bb, 0, none⟩) s s) ∧ w'.heap[bb]? = some (.cells (bufOf z k s).toArray 5 (0, 0)) ∧ P w') :
    Calls Ybaf.prog 5 #[d, .int .i64 s] w fun e w' => e = .returned (.int .u64 (val z k s)) ∧ P w' := by
  go_enter Ybaf.func5, Ybaf.ntmps5
  go_wp2_with fail
  refine hcall.mono ?_
  rintro e w1 ⟨rfl, hrow, hP⟩
  have HR : Hid (w1.heap[bb]? = some (.cells (bufOf z k s).toArray 5 (0, 0))) := hrow
  have HP : Hid (P w1) := hP
  clear hrow hP hcall
  go_wp2_with fail
  go_loopw [5, 12] (fun v i wx => ∃ n : Nat, n ≤ s ∧ i = .int .i64 n ∧ v = .int .u64 (val z k n) ∧ wx = w1) (fun _ i _ => s - (intOf i).toNat)
  case atStart => exact ⟨0, Nat.zero_le _, rfl, by simp [val, bigE], rfl⟩
  case round =>
    obtain ⟨n, hn, rfl, rfl, rfl⟩ := hrel
    by_cases hlt : n < s
    · have hck := buf_cell HR.out hlt
      have h0 : 0 ≤ z.getD (k + n) 0 := (hz _).1
      have h1 : z.getD (k + n) 0 ≤ 255 := (hz _).2
      have HS : Hid (bits .or .u64 (IntKind.u64.wrap ((val z k n : Int) * 256)) (z.getD (k + n) 0) = (val z k (n + 1) : Int)) := val_succ hz k n
      have hi0 : (0 : Int) ≤ (n : Int) := by omega
      have hi1 : (n : Int) < (s : Int) := by omega
      generalize z.getD (k + n) 0 = c at hck h0 h1 HS
      go_wp2_with fail
      go_roundw
      case rel => exact ⟨n + 1, by omega, by go_num, by rw [HS.out], trivial⟩
      case measure => simp [intOf]; omega
    · obtain rfl : n = s := by omega
      go_wp2_with fail
      go_ret
      exact ⟨rfl, HP.out⟩

theorem val_nil (f s : Nat) : val [] f s = 0 := by
  have h : bigE (byteAt [] f) s = 0 := by
    induction s with
    | zero => rfl
    | succ n ih => simp [bigE, ih, byteAt]
  simp [val, h]

variable {F : Interp} {g : GV} {B br bd : Nat} {a : Option Addr} {len cap : Nat} {z : List Int} {k : Nat}

theorem unsigned_err (s : Nat) (w : World) (h : St F g B br bd a len cap z k true w) (hs : s ≤ 11) :
    Calls Ybaf.prog 5 #[.pointer (some ⟨bd, 0, none⟩), .int .i64 s] w fun e w' => e = .returned (.int .u64 0) ∧ St F g B br bd a len cap z k true w' ∧ Below B w w' := by
  have hc := unsigned_of w.heap.size 0 s (.pointer (some ⟨bd, 0, none⟩)) [] (fun j => by simp) hs w (fun w' => St F g B br bd a len cap z k true w' ∧ Below B w w') ((bytes_err s w h hs).mono (by
    rintro e w' ⟨rfl, hS, hr, hb⟩
    refine ⟨rfl, ?_, hS, hb.mono h.hBw⟩
    rw [hr]
    congr 3
    simp only [bufOf, List.getD_nil]
    exact List.ext_getElem (by simp) (by simp)))
  rw [val_nil] at hc
  exact hc

theorem unsigned_any (s : Nat) (w : World) (h : St F g B br bd a len cap z k false w) (hl : len ≤ 1024) (hz : z.length = len) (hb : ∀ j, 0 ≤ z.getD j 0 ∧ z.getD j 0 ≤ 255) (hcap : len ≤ cap) (hs : s ≤ 11) :
    Calls Ybaf.prog 5 #[.pointer (some ⟨bd, 0, none⟩), .int .i64 s] w fun e w' => e = .returned (.int .u64 (val z k s)) ∧ St F g B br bd a len cap z (min (k + s) len) (decide (len < k + s)) w' ∧ Below B w w' :=
  unsigned_of w.heap.size k s (.pointer (some ⟨bd, 0, none⟩)) z hb hs w (fun w' => St F g B br bd a len cap z (min (k + s) len) (decide (len < k + s)) w' ∧ Below B w w') ((bytes_any s w h hl hz hcap hs).mono (by
    rintro e w' ⟨rfl, hS, hr, hb⟩
    exact ⟨rfl, hr, hS, hb⟩))
end Go.Proofs.YbulkchnuFmt
