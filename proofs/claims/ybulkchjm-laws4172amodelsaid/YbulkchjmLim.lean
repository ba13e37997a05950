/-
  THE LIMITER's SMALL METHODS, the law's own helpers, and the plain law on 'roll'.
-/
import Derived.Test.YbulkchjmTime
namespace Go.Proofs.Ybulkchjm
open Go.RowKit

def quotaF (q : Int) : Int := if q ≤ 0 then -1 else q

theorem quota_any (q : Int) (w : World) : Calls Yba.prog 4 #[.int .i64 q] w fun e w' => e = .returned (.int .i64 (quotaF q)) ∧ w = w' := by
  by_cases h : q ≤ 0
  · rw [show quotaF q = -1 from if_pos h]
    go_enter Yba.func4, Yba.ntmps4
    go_wp2
    go_ret
    exact ⟨rfl, rfl⟩
  · rw [show quotaF q = q from if_neg h]
    go_enter Yba.func4, Yba.ntmps4
    go_wp2
    go_ret
    exact ⟨rfl, rfl⟩

/-! ### roll: one period at a time; and in one step -/
def rollI (q : Int) : Int → Nat → Int
  | r, 0 => r
  | r, n + 1 => if 0 ≤ r then q else rollI q (q + r) n
theorem rollI_pos {q r : Int} (n : Nat) (h : 0 ≤ r) : rollI q r (n + 1) = q := by
  show (if 0 ≤ r then q else rollI q (q + r) n) = q
  rw [if_pos h]
theorem rollI_neg {q r : Int} (n : Nat) (h : ¬ 0 ≤ r) : rollI q r (n + 1) = rollI q (q + r) n := by
  show (if 0 ≤ r then q else rollI q (q + r) n) = _
  rw [if_neg h]
def debtOf (r : Int) : Int := if 0 ≤ r then 0 else -r
def rollC (q r n : Int) : Int := if n - 1 > debtOf r / q then q else q - (debtOf r - (n - 1) * q)

theorem rollC_eq (q : Int) (hq : 0 < q) : ∀ (n : Nat) (r : Int), rollC q r (n + 1 : Nat) = rollI q r (n + 1) := by
  intro n
  induction n with
  | zero =>
    intro r
    by_cases hr : 0 ≤ r
    · have : debtOf r = 0 := if_pos hr
      simp [rollI, rollC, hr, this]
    · have hd : debtOf r = -r := if_neg hr
      have : 0 ≤ -r / q := Int.ediv_nonneg (by omega) (by omega)
      simp only [rollI, hr, if_false, rollC, hd]
      rw [if_neg (by omega)]
      simp
  | succ n ih =>
    intro r
    by_cases hr : 0 ≤ r
    · have hd : debtOf r = 0 := if_pos hr
      simp only [rollI, rollC, hd, hr, if_true]
      rw [if_pos (by simp)]
    · have hd : debtOf r = -r := if_neg hr
      have hI : rollI q r (n + 1 + 1) = rollI q (q + r) (n + 1) := by
        show (if 0 ≤ r then q else rollI q (q + r) (n + 1)) = _
        rw [if_neg hr]
      rw [hI, ← ih (q + r)]
      unfold rollC
      rw [hd]
      by_cases hs : 0 ≤ q + r
      · have hd' : debtOf (q + r) = 0 := if_pos hs
        rw [hd', Int.zero_ediv]
        by_cases hz : q + r = 0
        · have hqq : -r / q = 1 := by rw [show -r = q by omega]; exact Int.ediv_self (by omega)
          rw [hqq]
          by_cases hn : n = 0
          · subst hn
            rw [if_neg (by simp), if_neg (by simp)]
            simp
            omega
          · rw [if_pos (by omega), if_pos (by omega)]
        · have hqq : -r / q = 0 := Int.ediv_eq_zero_of_lt (by omega) (by omega)
          rw [hqq, if_pos (by omega)]
          by_cases hn : n = 0
          · subst hn
            rw [if_neg (by simp)]
            simp
          · rw [if_pos (by omega)]
      · have hd' : debtOf (q + r) = -(q + r) := if_neg hs
        have hqq : -(q + r) / q = -r / q - 1 := by
          rw [show -(q + r) = -r + -1 * q by rw [Int.neg_mul, Int.one_mul]; omega, Int.add_mul_ediv_right _ _ (by omega)]
          omega
        rw [hd', hqq]
        by_cases hn : ((n + 1 + 1 : Nat) : Int) - 1 > -r / q
        · rw [if_pos hn, if_pos (by omega)]
        · rw [if_neg hn, if_neg (by omega)]
          rw [show ((n + 1 + 1 : Nat) : Int) - 1 = (((n + 1 : Nat) : Int) - 1) + 1 by omega, Int.add_mul, Int.one_mul]
          omega

/-- The remainders that can be met. -/
def Rem (q r : Int) : Prop := (q = -1 ∧ r = -1) ∨ (0 < q ∧ q ≤ 9223372036854775807 ∧ -9223372036854775807 < r ∧ r ≤ q)
def rollF (q r n : Int) : Int := if q = -1 then r else rollC q r n

theorem debt_facts {q r n : Int} (hq : 0 < q) (hr : -9223372036854775807 < r) (hn : 1 ≤ n) (hle : ¬ n - 1 > debtOf r / q) :
    0 ≤ debtOf r ∧ debtOf r < 9223372036854775807 ∧ 0 ≤ (n - 1) * q ∧ (n - 1) * q ≤ debtOf r := by
  have hd : 0 ≤ debtOf r ∧ debtOf r < 9223372036854775807 := by unfold debtOf; split <;> omega
  refine ⟨hd.1, hd.2, Int.mul_nonneg (by omega) (by omega), ?_⟩
  have h1 : (n - 1) * q ≤ debtOf r / q * q := Int.mul_le_mul_of_nonneg_right (by omega) (by omega)
  have h2 : debtOf r / q * q ≤ debtOf r := Int.ediv_mul_le _ (by omega)
  omega

theorem rollF_rem {q r n : Int} (h : Rem q r) (hn : 1 ≤ n) : Rem q (rollF q r n) := by
  rcases h with ⟨rfl, rfl⟩ | ⟨hq, hq2, hr, hrq⟩
  · exact .inl ⟨rfl, rfl⟩
  · refine .inr ⟨hq, hq2, ?_⟩
    rw [show rollF q r n = rollC q r n from if_neg (by omega)]
    unfold rollC
    split
    · omega
    · rename_i hle
      have := debt_facts hq hr hn hle
      omega

theorem rollF_iter {q r n : Int} (h : Rem q r) (hn : 1 ≤ n) : rollF q r n = if q = -1 then r else rollI q r n.toNat := by
  unfold rollF
  split
  · rfl
  · rcases h with ⟨rfl, rfl⟩ | ⟨hq, _, _, _⟩
    · contradiction
    · have := rollC_eq q hq (n.toNat - 1) r
      rw [show n.toNat - 1 + 1 = n.toNat by omega, show ((n.toNat : Nat) : Int) = n by omega] at this
      exact this

/-- The law's own roll. -/
theorem zzroll_any (r q n : Int) (w : World) (h : Rem q r) (hn : 1 ≤ n) (hn2 : n ≤ 100000) : Calls Yba.prog 8 #[.int .i64 r, .int .i64 q, .int .i64 n] w fun e w' => e = .returned (.int .i64 (rollF q r n)) ∧ w = w' := by
  rw [rollF_iter h hn]
  rcases h with ⟨rfl, rfl⟩ | ⟨hq, hq2, hr, hrq⟩
  · go_enter Yba.func8, Yba.ntmps8
    go_wp2
    go_ret
    exact ⟨rfl, rfl⟩
  · rw [if_neg (show ¬ q = -1 by omega)]
    have hb : (q == -1) = false := beq_eq_false_iff_ne.2 (by omega)
    obtain ⟨m, rfl⟩ : ∃ m : Nat, n = m := ⟨n.toNat, by omega⟩
    rw [Int.toNat_natCast]
    go_enter Yba.func8, Yba.ntmps8
    go_wp2
    go_loopw [0, 7] (fun v i wr => ∃ (k : Nat) (s : Int), k ≤ m ∧ i = .int .i64 k ∧ v = .int .i64 s ∧ Hid (rollI q s (m - k) = rollI q r m) ∧ -9223372036854775807 < s ∧ s ≤ q ∧ w = wr) (fun _ i _ => m - (intOf i).toNat)
    case atStart => exact ⟨0, r, Nat.zero_le _, rfl, rfl, rfl, hr, hrq, rfl⟩
    case round =>
      obtain ⟨k, s, hk, rfl, rfl, HR, hs1, hs2, rfl⟩ := hrel
      by_cases hlt : k < m
      · by_cases h0 : 0 ≤ s
        · go_wp2
          go_ret
          refine ⟨?_, rfl⟩
          have := HR.out
          rw [show m - k = (m - k - 1) + 1 by omega] at this
          rw [rollI_pos _ h0] at this
          rw [← this]
          rfl
        · have hst : rollI q (q + s) (m - (k + 1)) = rollI q r m := by
            have := HR.out
            rw [show m - k = (m - (k + 1)) + 1 by omega] at this
            rwa [rollI_neg _ h0] at this
          have HS : Hid (rollI q (q + s) (m - (k + 1)) = rollI q r m) := hst
          clear hst HR
          go_wp2
          go_roundw
          case rel => exact ⟨k + 1, q + s, by omega, by go_num, by go_num, HS, by omega, by omega, trivial⟩
          case measure => simp [intOf]; omega
      · have hkm : m = k := by omega
        subst hkm
        have hst : s = rollI q r m := by
          have := HR.out
          simpa [rollI] using this
        clear HR
        go_wp2
        go_ret
        exact ⟨by rw [← hst]; rfl, rfl⟩

/-! ### one quota's methods -/
/-- Either the cell is written, or nothing is and the cell holds the value as it is. -/
def SetTo (w w' : World) (a : Addr) (v : Value) : Prop := w' = w.setCell a v ∨ (w' = w ∧ w.cell? a = some v)

def allowsF (q r : Int) : Bool := q == -1 || decide (r > 0)
def spendF (q r n : Int) : Int := if q = -1 then r else r - n

theorem allows_any (b off : Nat) (q r : Int) (w : World) (hq : w.cell? ⟨b, off, none⟩ = some (.int .i64 q)) (hr : w.cell? ⟨b, off + 1, none⟩ = some (.int .i64 r)) :
    Calls Yba.prog 17 #[.pointer (some ⟨b, off, none⟩)] w fun e w' => e = .returned (.bool (allowsF q r)) ∧ w = w' := by
  by_cases h : q = -1
  · subst h
    go_enter Yba.func17, Yba.ntmps17
    go_wp2
    go_ret
    exact ⟨rfl, rfl⟩
  · have hb : (q == -1) = false := beq_eq_false_iff_ne.2 h
    have hv : allowsF q r = decide (r > 0) := by simp [allowsF, hb]
    rw [hv]
    clear hv
    by_cases hp : r > 0
    · go_enter Yba.func17, Yba.ntmps17
      go_wp2
      go_ret
      exact ⟨by simp [hp], rfl⟩
    · go_enter Yba.func17, Yba.ntmps17
      go_wp2
      go_ret
      exact ⟨by simp [hp], rfl⟩

theorem spend_any (b off : Nat) (q r n : Int) (w : World) (hq : w.cell? ⟨b, off, none⟩ = some (.int .i64 q)) (hr : w.cell? ⟨b, off + 1, none⟩ = some (.int .i64 r)) (hz : w.frozen? ⟨b, off + 1, none⟩ = false)
    (h0 : -9223372036854775808 ≤ r - n) (h1 : r - n ≤ 9223372036854775807) :
    Calls Yba.prog 18 #[.pointer (some ⟨b, off, none⟩), .int .i64 n] w fun e w' => e = .returned (.tuple #[]) ∧ SetTo w w' ⟨b, off + 1, none⟩ (.int .i64 (spendF q r n)) := by
  by_cases h : q = -1
  · subst h
    go_enter Yba.func18, Yba.ntmps18
    go_wp2
    go_end0
    exact ⟨rfl, .inr ⟨rfl, hr⟩⟩
  · have hb : (q == -1) = false := beq_eq_false_iff_ne.2 h
    rw [show spendF q r n = r - n from if_neg h]
    go_enter Yba.func18, Yba.ntmps18
    go_wp2
    go_end0
    exact ⟨rfl, .inl rfl⟩

theorem roll_any (b off : Nat) (q r n : Int) (w : World) (hq : w.cell? ⟨b, off, none⟩ = some (.int .i64 q)) (hr : w.cell? ⟨b, off + 1, none⟩ = some (.int .i64 r)) (hz : w.frozen? ⟨b, off + 1, none⟩ = false)
    (h : Rem q r) (hn : 1 ≤ n) (hn2 : n ≤ 100000) :
    Calls Yba.prog 23 #[.pointer (some ⟨b, off, none⟩), .int .i64 n] w fun e w' => e = .returned (.tuple #[]) ∧ SetTo w w' ⟨b, off + 1, none⟩ (.int .i64 (rollF q r n)) := by
  rcases h with ⟨rfl, rfl⟩ | ⟨hq0, hq1, hr0, hr1⟩
  · go_enter Yba.func23, Yba.ntmps23
    go_wp2
    exact bodyPost_ret (results_none rfl _ _ _) rfl ⟨rfl, .inr ⟨rfl, hr⟩⟩
  · have hb : (q == -1) = false := beq_eq_false_iff_ne.2 (by omega)
    rw [show rollF q r n = rollC q r n from if_neg (by omega)]
    by_cases hneg : r < 0
    · obtain ⟨D, rfl⟩ : ∃ D : Int, r = -D := ⟨-r, by omega⟩
      have hdr : debtOf (-D) = D := (if_neg (by omega)).trans (Int.neg_neg D)
      have hD0 : 0 < D := by omega
      have hD1 : D < 9223372036854775807 := by omega
      by_cases hc : n - 1 > D / q
      · rw [show rollC q (-D) n = q from if_pos (by rw [hdr]; exact hc)]
        clear hneg hr0 hr1 hdr
        go_enter Yba.func23, Yba.ntmps23
        go_wp2
        go_end0
        exact ⟨rfl, .inl rfl⟩
      · obtain ⟨_, _, hp0, hp1⟩ := debt_facts hq0 hr0 hn (by rw [hdr]; exact hc)
        rw [hdr] at hp1
        rw [show rollC q (-D) n = q - (D - (n - 1) * q) by unfold rollC; rw [hdr, if_neg hc]]
        clear hdr hneg hr0 hr1
        go_enter Yba.func23, Yba.ntmps23
        go_wp2
        go_end0
        exact ⟨rfl, .inl rfl⟩
    · have hdr : debtOf r = 0 := if_pos (by omega)
      by_cases h1 : n = 1
      · subst h1
        rw [show rollC q r 1 = q by unfold rollC; rw [hdr]; simp]
        go_enter Yba.func23, Yba.ntmps23
        go_wp2
        go_end0
        exact ⟨rfl, .inl rfl⟩
      · rw [show rollC q r n = q by unfold rollC; rw [hdr, Int.zero_ediv, if_pos (by omega)]]
        have h1 : 1 < n := by omega
        go_enter Yba.func23, Yba.ntmps23
        go_wp2
        go_end0
        exact ⟨rfl, .inl rfl⟩
end Go.Proofs.Ybulkchjm
