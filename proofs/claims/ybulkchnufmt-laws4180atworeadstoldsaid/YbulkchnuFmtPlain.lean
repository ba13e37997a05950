/-
  THE PLAIN LAW: big-endian values modulo 2^64, by shifting and by placing.
-/
import Derived.Test.YbulkchnuFmtRead
import Derived.Laws.Bits64
namespace Go.Proofs.YbulkchnuFmt
open Go

/-- The big-endian value of the first n of the bytes c. -/
def bigE (c : Nat → Nat) : Nat → Nat
  | 0 => 0
  | n + 1 => bigE c n * 256 + c n

theorem or_add (a b i : Nat) (ha : a % 2 ^ i = 0) (hb : b < 2 ^ i) : a ||| b = a + b := by
  have h := Nat.shiftLeft_add_eq_or_of_lt hb (a / 2 ^ i)
  rw [Nat.shiftLeft_eq, Nat.div_mul_cancel (Nat.dvd_of_mod_eq_zero ha)] at h
  exact h.symm

theorem uns_step (B c : Nat) (hc : c < 256) : (B % 2 ^ 64 * 256) % 2 ^ 64 ||| c = (B * 256 + c) % 2 ^ 64 := by
  rw [or_add _ _ 8 (by omega) (by omega)]
  omega

theorem fold_step (B c pos : Nat) (hc : c < 256) (hp : pos < 8) : (B * 256 ^ (pos + 1)) % 2 ^ 64 ||| (c * 2 ^ (8 * pos)) = ((B * 256 + c) * 256 ^ pos) % 2 ^ 64 := by
  have h : pos = 0 ∨ pos = 1 ∨ pos = 2 ∨ pos = 3 ∨ pos = 4 ∨ pos = 5 ∨ pos = 6 ∨ pos = 7 := by omega
  rcases h with rfl | rfl | rfl | rfl | rfl | rfl | rfl | rfl
  · rw [or_add _ _ 8 (by omega) (by omega)]; omega
  · rw [or_add _ _ 16 (by omega) (by omega)]; omega
  · rw [or_add _ _ 24 (by omega) (by omega)]; omega
  · rw [or_add _ _ 32 (by omega) (by omega)]; omega
  · rw [or_add _ _ 40 (by omega) (by omega)]; omega
  · rw [or_add _ _ 48 (by omega) (by omega)]; omega
  · rw [or_add _ _ 56 (by omega) (by omega)]; omega
  · rw [or_add _ _ 64 (by omega) (by omega)]; omega

theorem fold_skip (B c pos : Nat) (hp : 8 ≤ pos) : (B * 256 ^ (pos + 1)) % 2 ^ 64 = ((B * 256 + c) * 256 ^ pos) % 2 ^ 64 := by
  have e : (2 : Nat) ^ 64 ∣ 256 ^ pos := by
    rw [show (2 : Nat) ^ 64 = 256 ^ 8 by decide]
    exact Nat.pow_dvd_pow 256 hp
  rw [Nat.mod_eq_zero_of_dvd (Nat.dvd_trans (Nat.dvd_trans e (Nat.pow_dvd_pow 256 (Nat.le_succ pos))) (Nat.dvd_mul_left _ _)), Nat.mod_eq_zero_of_dvd (Nat.dvd_trans e (Nat.dvd_mul_left _ _))]

theorem bits_or_u64_nat (a b : Nat) (ha : a < 2 ^ 64) (hb : b < 2 ^ 64) : bits .or .u64 (a : Int) (b : Int) = ((a ||| b : Nat) : Int) := by
  have hx : a ||| b < 2 ^ 64 := Nat.or_lt_two_pow (by omega) (by omega)
  have h1 : (BitVec.ofInt 64 (a : Int)).toNat = a := by
    rw [BitVec.ofInt_natCast, BitVec.toNat_ofNat]; exact Nat.mod_eq_of_lt (by omega)
  have h2 : (BitVec.ofInt 64 (b : Int)).toNat = b := by
    rw [BitVec.ofInt_natCast, BitVec.toNat_ofNat]; exact Nat.mod_eq_of_lt (by omega)
  show IntKind.u64.wrap ((BitVec.ofInt 64 (a : Int) ||| BitVec.ofInt 64 (b : Int)).toNat : Int) = _
  rw [BitVec.toNat_or, h1, h2, IntKind.wrap_u64]
  omega

/-- The i-th byte from f on: zero behind the end. -/
def byteAt (z : List Int) (f i : Nat) : Nat := (z.getD (f + i) 0).toNat

theorem byteAt_lt {z : List Int} (hz : ∀ j, 0 ≤ z.getD j 0 ∧ z.getD j 0 ≤ 255) (f i : Nat) : byteAt z f i < 256 := by
  have := hz (f + i)
  unfold byteAt
  omega
theorem byteAt_cast {z : List Int} (hz : ∀ j, 0 ≤ z.getD j 0 ∧ z.getD j 0 ≤ 255) (f i : Nat) : z.getD (f + i) 0 = (byteAt z f i : Int) := by
  have := hz (f + i)
  unfold byteAt
  omega

/-- The value, in 64 bits. -/
def val (z : List Int) (f s : Nat) : Nat := bigE (byteAt z f) s % 2 ^ 64
/-- .. as the law's own function holds it behind k of s rounds. -/
def fval (z : List Int) (f s k : Nat) : Nat := bigE (byteAt z f) k * 256 ^ (s - k) % 2 ^ 64

theorem fval_end (z : List Int) (f s : Nat) : fval z f s s = val z f s := by simp [fval, val]
theorem val_lt (z : List Int) (f s : Nat) : val z f s < 2 ^ 64 := Nat.mod_lt _ (by decide)
theorem fval_lt (z : List Int) (f s k : Nat) : fval z f s k < 2 ^ 64 := Nat.mod_lt _ (by decide)

theorem val_succ {z : List Int} (hz : ∀ j, 0 ≤ z.getD j 0 ∧ z.getD j 0 ≤ 255) (f k : Nat) : bits .or .u64 (IntKind.u64.wrap ((val z f k : Int) * 256)) (z.getD (f + k) 0) = (val z f (k + 1) : Int) := by
  have hb := byteAt_lt hz f k
  have hv := val_lt z f k
  rw [byteAt_cast hz f k, IntKind.wrap_u64, show ((val z f k : Int) * 256 % 18446744073709551616) = ((val z f k * 256 % 2 ^ 64 : Nat) : Int) by omega, bits_or_u64_nat _ _ (Nat.mod_lt _ (by decide)) (by omega)]
  rw [val, uns_step _ _ hb]
  rfl

theorem fval_succ {z : List Int} (hz : ∀ j, 0 ≤ z.getD j 0 ∧ z.getD j 0 ≤ 255) (f s k : Nat) (hk : k < s) (hp : s - 1 - k < 8) : bits .or .u64 (fval z f s k : Int) (IntKind.u64.wrap (z.getD (f + k) 0 * 2 ^ (8 * (s - 1 - k)))) = (fval z f s (k + 1) : Int) := by
  have hb := byteAt_lt hz f k
  have hv := fval_lt z f s k
  have h2 : byteAt z f k * 2 ^ (8 * (s - 1 - k)) < 2 ^ 64 := by
    have h3 : (2 : Nat) ^ (8 * (s - 1 - k)) ≤ 2 ^ 56 := Nat.pow_le_pow_right (by decide) (by omega)
    calc byteAt z f k * 2 ^ (8 * (s - 1 - k)) ≤ 255 * 2 ^ 56 := Nat.mul_le_mul (by omega) h3
      _ < 2 ^ 64 := by decide
  have e : z.getD (f + k) 0 * 2 ^ (8 * (s - 1 - k)) = ((byteAt z f k * 2 ^ (8 * (s - 1 - k)) : Nat) : Int) := by
    rw [byteAt_cast hz f k, Int.natCast_mul, Int.natCast_pow]
    rfl
  rw [e, IntKind.wrap_u64, show (((byteAt z f k * 2 ^ (8 * (s - 1 - k)) : Nat) : Int) % 18446744073709551616) = ((byteAt z f k * 2 ^ (8 * (s - 1 - k)) : Nat) : Int) by omega, bits_or_u64_nat _ _ hv h2]
  have h5 := fold_step (bigE (byteAt z f) k) (byteAt z f k) (s - 1 - k) hb hp
  rw [show s - 1 - k + 1 = s - k by omega, show s - 1 - k = s - (k + 1) by omega] at h5
  rw [show s - 1 - k = s - (k + 1) by omega]
  unfold fval
  rw [h5]
  rfl

theorem fval_skip (z : List Int) (f s k : Nat) (hk : k < s) (hp : 8 ≤ s - 1 - k) : fval z f s (k + 1) = fval z f s k := by
  have h5 := fold_skip (bigE (byteAt z f) k) (byteAt z f k) (s - 1 - k) hp
  rw [show s - 1 - k + 1 = s - k by omega, show s - 1 - k = s - (k + 1) by omega] at h5
  unfold fval
  rw [h5]
  rfl
end Go.Proofs.YbulkchnuFmt
