/-
  io.ReadAtLeast, io.ReadFull: all ways in one law.
-/
import Derived.Test.YbulkchnuFmtShort
namespace Go.Proofs.YbulkchnuFmt
open Go.RowKit Go.Extern.Stop Go.Stop Go.Extern

/-- The data's bytes, in a block below B (or none at all). -/
def Src (w : World) (a : Option Addr) (len : Nat) (z : List Int) (B : Nat) : Prop :=
  len = 0 ∨ ∃ b off, a = some ⟨b, off, none⟩ ∧ b < B ∧ ∀ j, j < len → w.cell? ⟨b, off + j, none⟩ = some (.int .u8 (z.getD j 0))

theorem Src.below {w w' : World} {a : Option Addr} {len : Nat} {z : List Int} {B : Nat} (h : Src w a len z B) (b : Below B w w') : Src w' a len z B := by
  rcases h with h | ⟨bl, off, rfl, hlt, hc⟩
  · exact .inl h
  · exact .inr ⟨bl, off, rfl, hlt, fun j hj => Below.keepCell b (hc j hj) hlt⟩

/-- A buffer of s bytes that were read from k on: zeros behind the data's end. -/
def bufOf (z : List Int) (k s : Nat) : List Value := (List.range s).map fun i => .int .u8 (z.getD (k + i) 0)

theorem buf_splice (z : List Int) (k s m : Nat) (hm : m = min (z.length - k) s) : splice (List.replicate s (.int .u8 0)) 0 (bytesAt z k m) = bufOf z k s := by
  have hl : (bytesAt z k m).length = m := by
    simp only [bytesAt, List.length_map, List.length_take, List.length_drop]
    omega
  have e : splice (List.replicate s (.int .u8 0)) 0 (bytesAt z k m) = bytesAt z k m ++ List.replicate (s - m) (.int .u8 0) := by
    simp [splice, hl]
  rw [e]
  apply List.ext_getElem?
  intro i
  by_cases h1 : i < m
  · have h2 : k + i < z.length := by omega
    rw [List.getElem?_append_left (by omega)]
    simp [bytesAt, bufOf, h1, show i < s by omega, List.getD, List.getElem?_eq_getElem h2]
  · rw [List.getElem?_append_right (by omega), hl]
    by_cases h3 : i < s
    · have h4 : z.length ≤ k + i := by omega
      simp [bufOf, h3, List.getD, List.getElem?_eq_none h4, show i - m < s - m by omega]
    · simp [bufOf, h3, show ¬ i - m < s - m by omega]

/-- What a read of s bytes from k on answers. -/
def Says (g : GV) (len k s : Nat) (ev : Value) : Prop :=
  (k + s ≤ len ∧ ev = .nilIface) ∨ (len < k + s ∧ (ev = .iface 48 (.pointer (some g.aE)) ∨ ev = .iface 48 (.pointer (some g.aU))))

variable {g : GV} {B : Nat}

theorem least_any (br k : Nat) (a : Option Addr) (len cap bb s : Nat) (z : List Int) (w : World) (G : Glob g B w) (R : Rd w br (.slice a len cap) k) (S : Src w a len z B) (hB : B ≤ br) (hBb : B ≤ bb) (hBw : B ≤ w.heap.size) (hl : len ≤ 1024)
    (hz : z.length = len) (hs : s ≤ 11) (hk : k ≤ len) (hrow : w.heap[bb]? = some (.cells (List.replicate s (.int .u8 0)).toArray 5 (0, 0))) (n1 : bb ≠ br) (hcap : len ≤ cap) :
    Calls Ybaf.prog 15 #[.iface 23 (.pointer (some ⟨br, 0, none⟩)), .slice (some ⟨bb, 0, none⟩) s s, .int .i64 s] w fun e w' => ∃ n ev, e = .returned (.tuple #[.int .i64 n, ev]) ∧ Says g len k s ev ∧
      Rd w' br (.slice a len cap) (min (k + s) len) ∧ w'.heap[bb]? = some (.cells (bufOf z k s).toArray 5 (0, 0)) ∧ Fr (fun i => i = br ∨ i = bb) w w' := by
  rcases Nat.eq_zero_or_pos s with rfl | hs0
  · refine (least_none _ _ _ w).mono ?_
    rintro e w' ⟨rfl, rfl⟩
    refine ⟨_, _, rfl, .inl ⟨by omega, rfl⟩, ?_, by simpa [bufOf] using hrow, Fr.refl _ _⟩
    rw [show min (k + 0) len = k by omega]
    exact R
  · rcases Nat.lt_or_ge k len with hkl | hkl
    · obtain ⟨b, off, rfl, hbB, hsrc⟩ : ∃ b off, a = some ⟨b, off, none⟩ ∧ b < B ∧ ∀ j, j < len → w.cell? ⟨b, off + j, none⟩ = some (.int .u8 (z.getD j 0)) := by
        rcases S with h | h
        · omega
        · exact h
      by_cases hfit : k + s ≤ len
      · refine (least_all br k b off len cap bb s z _ w R hl hz (by simp) hs0 hs hfit hrow hsrc n1 (by omega) (by omega) hcap).mono ?_
        rintro e w' ⟨rfl, hR, hr, hF⟩
        rw [buf_splice z k s s (by omega)] at hr
        refine ⟨_, _, rfl, .inl ⟨hfit, rfl⟩, ?_, hr, hF⟩
        rw [Nat.min_eq_left hfit]
        exact hR
      · refine (least_short br k b off len cap bb s (len - k) z _ w G R hB hBb hBw hl hz (by simp) hs (by omega) (by omega) (by omega) hrow hsrc n1 (by omega) (by omega) hcap).mono ?_
        rintro e w' ⟨rfl, hR, hr, hF⟩
        rw [buf_splice z k s (len - k) (by omega)] at hr
        refine ⟨_, _, rfl, .inr ⟨by omega, .inr rfl⟩, ?_, hr, hF⟩
        rw [show min (k + s) len = k + (len - k) by omega]
        exact hR
    · refine (least_end br k a len cap bb s w G R hB hkl hs0 hs).mono ?_
      rintro e w' ⟨rfl, hR, hF⟩
      refine ⟨_, _, rfl, .inr ⟨by omega, .inl rfl⟩, ?_, ?_, hF.mono (fun _ h => .inl h)⟩
      · rw [show min (k + s) len = k by omega]
        exact hR
      · rw [hF.block bb (lt_of_row hrow) n1, hrow, ← buf_splice z k s 0 (by omega)]
        simp [splice, bytesAt]

theorem full_any (br k : Nat) (a : Option Addr) (len cap bb s : Nat) (z : List Int) (w : World) (G : Glob g B w) (R : Rd w br (.slice a len cap) k) (S : Src w a len z B) (hB : B ≤ br) (hBb : B ≤ bb) (hBw : B ≤ w.heap.size) (hl : len ≤ 1024)
    (hz : z.length = len) (hs : s ≤ 11) (hk : k ≤ len) (hrow : w.heap[bb]? = some (.cells (List.replicate s (.int .u8 0)).toArray 5 (0, 0))) (n1 : bb ≠ br) (hcap : len ≤ cap) :
    Calls Ybaf.prog 12 #[.iface 23 (.pointer (some ⟨br, 0, none⟩)), .slice (some ⟨bb, 0, none⟩) s s] w fun e w' => ∃ n ev, e = .returned (.tuple #[.int .i64 n, ev]) ∧ Says g len k s ev ∧
      Rd w' br (.slice a len cap) (min (k + s) len) ∧ w'.heap[bb]? = some (.cells (bufOf z k s).toArray 5 (0, 0)) ∧ Fr (fun i => i = br ∨ i = bb) w w' := by
  have hcall := least_any br k a len cap bb s z w G R S hB hBb hBw hl hz hs hk hrow n1 hcap
  go_enter Ybaf.func12, Ybaf.ntmps12
  go_wp2_with fail
  refine hcall.mono ?_
  rintro e w' ⟨n, ev, rfl, hpost⟩
  go_wp2
  go_ret2
  exact ⟨n, ev, rfl, hpost⟩
end Go.Proofs.YbulkchnuFmt
