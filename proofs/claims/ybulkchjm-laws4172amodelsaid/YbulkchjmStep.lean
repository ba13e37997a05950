/-
  ONE STEP OF THE SCRIPT: TryAcquire's contract in one piece; the script as it came in; the round's worlds.
-/
import Derived.Test.YbulkchjmTry
namespace Go.Proofs.Ybulkchjm
open Go.RowKit

variable {w w' : World} {bl bc bb bn : Nat} {per : Int} {clk : Value} {st cur mq mr bq br c T : Int}

/-- What a call of TryAcquire answers and leaves. -/
inductive Verdict (mq mr bq br cur p M B : Int) : Bool → Int → Int → Int → Int → Prop
  | neg (h : M < 0 ∨ B < 0) : Verdict mq mr bq br cur p M B false 0 cur mr br
  | un (hM : 0 ≤ M) (hB : 0 ≤ B) (h1 : mq = -1) (h2 : bq = -1) : Verdict mq mr bq br cur p M B true 0 cur mr br
  | live (hM : 0 ≤ M) (hB : 0 ≤ B) (hn : ¬ (mq = -1 ∧ bq = -1)) : Verdict mq mr bq br cur p M B (okF mq (rolF mq mr p cur) bq (rolF bq br p cur)) 1 (curF p cur)
      (spF (okF mq (rolF mq mr p cur) bq (rolF bq br p cur)) mq (rolF mq mr p cur) M) (spF (okF mq (rolF mq mr p cur) bq (rolF bq br p cur)) bq (rolF bq br p cur) B)

theorem try_any (M B p : Int) (hL : Lim w bl per (clkV bc bb bn) 0 cur mq mr bq br) (hC : Clk w bc bb bn c T) (nl : bl ≠ bc) (nb : bc ≠ bb) (nn : bc ≠ bn) (nbl : bb ≠ bl) (nnl : bn ≠ bl)
    (hp : Int.tdiv T per = p) (p0 : 1 ≤ per) (p1 : per ≤ 8) (t0 : -32768 ≤ T) (t1 : T ≤ 32767) (c0 : 0 ≤ c) (c1 : c < 100000) (u0 : 0 ≤ cur) (u1 : cur ≤ 32767) (hm : Rem mq mr) (hb : Rem bq br)
    (hM1 : M ≤ 9223372036854775807) (hB1 : B ≤ 9223372036854775807) :
    Calls Yba.prog 7 #[.pointer (some ⟨bl, 0, none⟩), .int .i64 M, .int .i64 B] w fun e w' => ∃ got dc cur' mr' br', Verdict mq mr bq br cur p M B got dc cur' mr' br' ∧ e = .returned (.bool got) ∧
      Lim w' bl per (clkV bc bb bn) 0 cur' mq mr' bq br' ∧ Clk w' bc bb bn (c + dc) T ∧ Fr (fun k => k = bl ∨ k = bc) w w' := by
  by_cases h1 : M < 0 ∨ B < 0
  · refine (try_neg M B _ w h1).mono ?_
    rintro e w' ⟨rfl, rfl⟩
    exact ⟨_, _, _, _, _, .neg h1, rfl, hL, by rw [Int.add_zero]; exact hC, Fr.refl _ _⟩
  · have hM : 0 ≤ M := by omega
    have hB : 0 ≤ B := by omega
    by_cases h2 : mq = -1 ∧ bq = -1
    · obtain ⟨rfl, rfl⟩ := h2
      refine (try_un M B hL hM hB).mono ?_
      rintro e w' ⟨rfl, rfl⟩
      exact ⟨_, _, _, _, _, .un hM hB rfl rfl, rfl, hL, by rw [Int.add_zero]; exact hC, Fr.refl _ _⟩
    · refine (try_live M B p hL hC nl nb nn nbl nnl hp p0 p1 t0 t1 c0 c1 u0 u1 hm hb hM hM1 hB hB1 h2).mono ?_
      rintro e w' ⟨rfl, h3⟩
      exact ⟨_, _, _, _, _, .live hM hB h2, rfl, h3⟩

theorem Verdict.after {p M B : Int} {got : Bool} {dc cur' mr' br' : Int} (h : Verdict mq mr bq br cur p M B got dc cur' mr' br') (hm : Rem mq mr) (hb : Rem bq br) (hM1 : M ≤ 9223372036854775807) (hB1 : B ≤ 9223372036854775807) (u0 : 0 ≤ cur) (u1 : cur ≤ 32767) (p1 : p ≤ 32767) :
    Rem mq mr' ∧ Rem bq br' ∧ 0 ≤ cur' ∧ cur' ≤ 32767 ∧ 0 ≤ dc ∧ dc ≤ 1 := by
  cases h with
  | neg => exact ⟨hm, hb, u0, u1, by omega, by omega⟩
  | un => exact ⟨hm, hb, u0, u1, by omega, by omega⟩
  | live hM hB hn =>
    refine ⟨spF_rem (rolF_rem hm) (fun h => ?_) hM hM1, spF_rem (rolF_rem hb) (fun h => ?_) hB hB1, ?_, ?_, by omega, by omega⟩
    · simp [okF] at h; exact h.1
    · simp [okF] at h; exact h.2
    · unfold curF; split <;> omega
    · unfold curF; split <;> omega

/-- The script, as it came in. -/
def Steps (w : World) (a : Option Addr) (len : Nat) : Prop :=
  ∀ i, i < len → ∃ b off x y z, a = some ⟨b, off, none⟩ ∧ w.cell? ⟨b, off + i * 3, none⟩ = some (.int .i16 x) ∧ w.cell? ⟨b, off + i * 3 + 1, none⟩ = some (.int .i64 y) ∧ w.cell? ⟨b, off + i * 3 + 2, none⟩ = some (.int .i64 z) ∧ -32768 ≤ x ∧ x ≤ 32767 ∧ -9223372036854775808 ≤ y ∧ y ≤ 9223372036854775807 ∧ -9223372036854775808 ≤ z ∧ z ≤ 9223372036854775807

theorem Steps.at {w wr : World} {a : Option Addr} {len i : Nat} (h : Steps w a len) (hb : Below w.heap.size w wr) (hi : i < len) :
    ∃ b off x y z, a = some ⟨b, off, none⟩ ∧ wr.cell? ⟨b, off + i * 3, none⟩ = some (.int .i16 x) ∧ wr.cell? ⟨b, off + i * 3 + 1, none⟩ = some (.int .i64 y) ∧ wr.cell? ⟨b, off + i * 3 + 2, none⟩ = some (.int .i64 z) ∧ -32768 ≤ x ∧ x ≤ 32767 ∧ -9223372036854775808 ≤ y ∧ y ≤ 9223372036854775807 ∧ -9223372036854775808 ≤ z ∧ z ≤ 9223372036854775807 ∧ b < w.heap.size := by
  obtain ⟨b, off, x, y, z, e, c0, c1, c2, r0, r1, r2, r3, r4, r5⟩ := h i hi
  exact ⟨b, off, x, y, z, e, (hb.cell (World.block_lt_of_cell? _ _ c0)).trans c0, (hb.cell (World.block_lt_of_cell? _ _ c1)).trans c1, (hb.cell (World.block_lt_of_cell? _ _ c2)).trans c2, r0, r1, r2, r3, r4, r5, World.block_lt_of_cell? _ _ c0⟩

/-- The loop's state. -/
structure Run (w : World) (per mq bq : Int) (k : Nat) (mr br cur c T : Int) (wr : World) : Prop where
  lim : Lim wr (w.heap.size + 3) per (clkV (w.heap.size + 1) (w.heap.size + 2) w.heap.size) 0 cur mq mr bq br
  clk : Clk wr (w.heap.size + 1) (w.heap.size + 2) w.heap.size c T
  below : Below w.heap.size w wr
  m : Rem mq mr
  b : Rem bq br
  u0 : 0 ≤ cur
  u1 : cur ≤ 32767
  c0 : 0 ≤ c
  c1 : c ≤ k

/-- The step's copy, and the clock set. -/
abbrev stepW (w wr : World) (x y z : Int) : World := (wr.setCell ⟨w.heap.size, 0, none⟩ (.int .i64 x)).alloc (.cells #[.int .i16 x, .int .i64 y, .int .i64 z] 45)

theorem Run.size {w wr : World} {k : Nat} (h : Run w per mq bq k mr br cur c T wr) : w.heap.size + 3 < wr.heap.size := h.lim.lt

theorem run_start (w : World) (per mq bq : Int) (hm : Rem mq mq) (hb : Rem bq bq) : Run w per mq bq 0 mq bq 0 0 0 ((((w.alloc (Obj.cells #[.int .i64 0] 24)).alloc (Obj.cells #[.int .i64 0] 3)).alloc (Obj.cells #[.int .u64 0, .int .i64 0, .pointer none] 28)).alloc
      (Obj.cells #[.int .i64 per, clkV (w.heap.size + 1) (w.heap.size + 2) w.heap.size, .int .u64 0, .int .i64 0, .pointer none, .int .i32 0, .int .u32 0, .int .i64 0, .int .i64 mq, .int .i64 mq, .int .i64 bq, .int .i64 bq] 42)) where
  lim := by
    refine ⟨?_, ?_, ?_, ?_, ?_, ?_, ?_, ?_, ?_, ?_, ?_, fun i => ?_⟩ <;> simp [go_sem]
  clk := by
    refine ⟨?_, ?_, ?_, ?_, ?_, ?_, ?_⟩ <;> simp [go_sem]
  below := by (repeat' (first | exact Below.refl _ _ | refine Below.drew ?_ | refine Below.alloc ?_ (by simp <;> omega) _))
  m := hm
  b := hb
  u0 := by omega
  u1 := by omega
  c0 := by omega
  c1 := by omega

theorem Run.step {w wr : World} {k : Nat} (h : Run w per mq bq k mr br cur c T wr) (x y z : Int) :
    Lim (stepW w wr x y z) (w.heap.size + 3) per (clkV (w.heap.size + 1) (w.heap.size + 2) w.heap.size) 0 cur mq mr bq br ∧ Clk (stepW w wr x y z) (w.heap.size + 1) (w.heap.size + 2) w.heap.size c x ∧ Below w.heap.size w (stepW w wr x y z) ∧ (stepW w wr x y z).heap.size = wr.heap.size + 1 ∧
      (stepW w wr x y z).cell? ⟨wr.heap.size, 0, none⟩ = some (.int .i16 x) ∧ (stepW w wr x y z).cell? ⟨wr.heap.size, 1, none⟩ = some (.int .i64 y) ∧ (stepW w wr x y z).cell? ⟨wr.heap.size, 2, none⟩ = some (.int .i64 z) := by
  have hs := h.size
  have hF : Fr (· = w.heap.size) wr (stepW w wr x y z) := ((Fr.refl (· = w.heap.size) wr).setCell (p := ⟨w.heap.size, 0, none⟩) (.inl rfl) _).alloc _
  refine ⟨h.lim.fr hF (by omega), ⟨hF.cell h.clk.cc (by simp), (hF.frozen (by show w.heap.size + 1 < _; omega) (by simp)).trans h.clk.zc, hF.cell h.clk.b0 (by simp), hF.cell h.clk.b1 (by simp), hF.cell h.clk.b2 (by simp), ?_, ?_⟩, ?_, by simp, by simp [go_sem], by simp [go_sem], by simp [go_sem]⟩
  · rw [World.cell?_alloc_lt _ _ _ (by simp; omega)]
    exact World.cell?_setCell_same _ _ _ h.clk.cn
  · rw [World.frozen?_of_block (Below.heap_alloc _ _ _ (by simp; omega))]
    simpa using h.clk.zn
  · exact h.below.trans (hF.below (by omega) (by intro k hk; omega))

theorem ok_true {q r u s : Int} (h1 : q = -1 ∨ 0 < r) (h2 : u = -1 ∨ 0 < s) : okF q r u s = true := by
  simp [okF, allowsF, h1, h2]
theorem ok_false1 {q r u s : Int} (h1 : q ≠ -1) (h2 : ¬ 0 < r) : okF q r u s = false := by
  have : allowsF q r = false := by simp [allowsF, h1]; omega
  simp [okF, this]
theorem ok_false2 {q r u s : Int} (h1 : u ≠ -1) (h2 : ¬ 0 < s) : okF q r u s = false := by
  have : allowsF u s = false := by simp [allowsF, h1]; omega
  simp [okF, this]
theorem spF_false (q r n : Int) : spF false q r n = r := rfl
theorem spF_un {q : Int} (r n : Int) (h : q = -1) : spF true q r n = r := by
  show spendF q r n = r
  exact if_pos h
theorem spF_lim {q : Int} (r n : Int) (h : q ≠ -1) : spF true q r n = r - n := by
  show spendF q r n = r - n
  exact if_neg h
theorem Rem.bounds {q r : Int} (h : Rem q r) : -9223372036854775807 < r ∧ r ≤ 9223372036854775807 := by
  rcases h with ⟨rfl, rfl⟩ | ⟨_, _, _, _⟩ <;> omega

theorem quotaF_rem {q : Int} (h : q ≤ 9223372036854775807) : Rem (quotaF q) (quotaF q) := by
  unfold quotaF Rem
  split <;> omega
end Go.Proofs.Ybulkchjm
