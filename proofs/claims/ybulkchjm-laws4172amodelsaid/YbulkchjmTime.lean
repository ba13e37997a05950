/-
  PACKAGE time ON THE ROAD: a clock that reads the zero time plus a small duration: nsec, sec, addSec, Add, Equal, Sub.
-/
import Derived.Test.YbulkchjmRows
import Derived.WalkKit
import Derived.WalkSpells
import Derived.WalkLawsBesides
import Derived.WalkSmall
import Derived.Deep.QuietTactic
import Derived.BigQuiet
import Derived.Deep.RegionHeld3
namespace Go.Proofs.Ybulkchjm
open Go.RowKit

theorem and_mask (x : Int) (h0 : 0 ≤ x) (h1 : x < 1073741824) : bits BinOp.and IntKind.u64 x 1073741823 = x := by
  have h := bits_and_u64_nat x.toNat 1073741823 (by omega) (by omega)
  rw [show (1073741823 : Nat) = 2 ^ 30 - 1 from rfl, Nat.and_two_pow_sub_one_eq_mod, Int.toNat_of_nonneg h0] at h
  exact h.trans (by omega)
theorem and_mono (x : Int) (h0 : 0 ≤ x) (h1 : x < 1073741824) : bits BinOp.and IntKind.u64 x 9223372036854775808 = 0 := by
  have h := bits_and_u64_nat x.toNat 9223372036854775808 (by omega) (by omega)
  rw [show (9223372036854775808 : Nat) = 2 ^ 63 from rfl, Int.toNat_of_nonneg h0] at h
  refine h.trans ?_
  rw [show x.toNat &&& 2 ^ 63 = 0 from ?_]; rfl
  refine Nat.eq_of_testBit_eq fun i => ?_
  rw [Nat.testBit_and, Nat.testBit_two_pow, Nat.zero_testBit]
  by_cases e : 63 = i
  · subst e
    rw [Nat.testBit_lt_two_pow (Nat.lt_trans (show x.toNat < 1073741824 by omega) (by decide))]
    rfl
  · simp [e]
theorem and_zero (x : Int) (h0 : 0 ≤ x) (h1 : x < 1073741824) : bits BinOp.and IntKind.u64 x 0 = 0 := by
  have h := bits_and_u64_nat x.toNat 0 (by omega) (by omega)
  rw [Int.toNat_of_nonneg h0, Nat.and_zero] at h
  exact h
theorem and_self (x : Int) (h0 : 0 ≤ x) (h1 : x < 1073741824) : bits BinOp.and IntKind.u64 x x = x := by
  have h := bits_and_u64_nat x.toNat x.toNat (by omega) (by omega)
  rw [Int.toNat_of_nonneg h0, Nat.and_self] at h
  exact h.trans (by omega)
theorem zero_or (x : Int) (h0 : 0 ≤ x) (h1 : x < 1073741824) : bits BinOp.or IntKind.u64 0 x = x := by
  have h := bits_or_u64_nat 0 x.toNat (by omega) (by omega)
  rw [Int.toNat_of_nonneg h0, Nat.zero_or] at h
  exact h.trans (by omega)
theorem andn : bits BinOp.andNot IntKind.u64 0 1073741823 = 0 := by decide
theorem and00 : bits BinOp.and IntKind.u64 0 0 = 0 := by decide
theorem and0m : bits BinOp.and IntKind.u64 0 9223372036854775808 = 0 := by decide

theorem tdiv_small (d : Int) (h0 : -32768 ≤ d) (h1 : d ≤ 32767) : Int.tdiv d 1000000000 = 0 := by
  by_cases h : 0 ≤ d
  · rw [Int.tdiv_eq_ediv_of_nonneg h]; omega
  · have e : d = -(-d) := by omega
    rw [e, Int.neg_tdiv, Int.tdiv_eq_ediv_of_nonneg (by omega)]; omega
theorem tmod_small (d : Int) (h0 : -32768 ≤ d) (h1 : d ≤ 32767) : Int.tmod d 1000000000 = d := by
  rw [Int.tmod_def, tdiv_small d h0 h1]; omega

/-- One result, in a cell of its own. -/
theorem results_cell1 {fn : Func} {p : Tmp} {ty : TypeId} (h : fn.results = #[.cell p ty]) (tmps : Array Value) (P : Program) (w : World) :
    (results fn tmps).run P w = ((asAddr (tmps.getD p undef)).run P w).andThen fun a w₁ => (loadVar ty a).run P w₁ := by
  simp only [results, h]
  simp [Sem.run_bind]

/-- What the zero time plus d nanoseconds holds (|d| small): wall, ext. -/
abbrev timeV (x y : Int) : Value := .agg #[.int .u64 x, .int .i64 y, .pointer none]
def wallOf (d : Int) : Int := if d < 0 then 1000000000 + d else d
def extOf (d : Int) : Int := if d < 0 then -1 else 0

theorem nsec_any (b : Nat) (x : Int) (w : World) (h : w.cell? ⟨b, 0, none⟩ = some (.int .u64 x)) (h0 : 0 ≤ x) (h1 : x < 1073741824) :
    Calls Yba.prog 11 #[.pointer (some ⟨b, 0, none⟩)] w fun e w' => e = .returned (.int .i32 x) ∧ w = w' := by
  have hm := and_mask x h0 h1
  go_enter Yba.func11, Yba.ntmps11
  go_wp2
  go_ret
  exact ⟨rfl, rfl⟩

theorem sec_any (b : Nat) (x y : Int) (w : World) (h : w.cell? ⟨b, 0, none⟩ = some (.int .u64 x)) (h0 : 0 ≤ x) (h1 : x < 1073741824) (hy : w.cell? ⟨b, 1, none⟩ = some (.int .i64 y)) :
    Calls Yba.prog 19 #[.pointer (some ⟨b, 0, none⟩)] w fun e w' => e = .returned (.int .i64 y) ∧ w = w' := by
  have hm := and_mono x h0 h1
  go_enter Yba.func19, Yba.ntmps19
  go_wp2
  go_ret
  exact ⟨rfl, rfl⟩

/-- The zero time, d seconds on, d = 0 or -1. -/
theorem addSec_any (b : Nat) (x d : Int) (w : World) (h : w.cell? ⟨b, 0, none⟩ = some (.int .u64 x)) (h0 : 0 ≤ x) (h1 : x < 1073741824) (hy : w.cell? ⟨b, 1, none⟩ = some (.int .i64 0)) (hz : w.frozen? ⟨b, 1, none⟩ = false) (hd : d = 0 ∨ d = -1) :
    Calls Yba.prog 12 #[.pointer (some ⟨b, 0, none⟩), .int .i64 d] w fun e w' => e = .returned (.tuple #[]) ∧ w' = w.setCell ⟨b, 1, none⟩ (.int .i64 d) := by
  have hm := and_mono x h0 h1
  rcases hd with rfl | rfl
  all_goals
    go_enter Yba.func12, Yba.ntmps12
    go_wp2
    go_end0
    exact ⟨rfl, rfl⟩

theorem add_any (d : Int) (w : World) (h0 : -32768 ≤ d) (h1 : d ≤ 32767) :
    Calls Yba.prog 6 #[timeV 0 0, .int .i64 d] w fun e w' => e = .returned (timeV (wallOf d) (extOf d)) ∧ Below w.heap.size w w' := by
  have e1 := tdiv_small d h0 h1
  have e2 := tmod_small d h0 h1
  have ha := andn
  by_cases hd : d < 0
  · have hw : wallOf d = d + 1000000000 := (if_pos hd).trans (by omega)
    have he : extOf d = -1 := if_pos hd
    rw [hw, he]
    clear hw he
    have hm := and_mono (d + 1000000000) (by omega) (by omega)
    have ho := zero_or (d + 1000000000) (by omega) (by omega)
    go_enter Yba.func6, Yba.ntmps6
    go_wp2_with (first
      | (go_at_call 11; refine (nsec_any _ 0 _ (by simp [go_sem]) (by omega) (by omega)).mono ?_; rintro e w' ⟨rfl, rfl⟩)
      | (go_at_call 12; refine (addSec_any _ (d + 1000000000) (-1) _ (by simp [go_sem]) (by omega) (by omega) (by simp [go_sem]) (by simp [go_sem]) (.inr rfl)).mono ?_; rintro e w' ⟨rfl, rfl⟩))
    (try simp only [Exit.inBlock, Exit.then])
    refine bodyPost_ret (v := timeV (d + 1000000000) (-1)) ?_ rfl ⟨rfl, ?_⟩
    · rw [results_cell1 rfl]
      go_simp
    (repeat' (first | exact Below.refl _ _ | refine Below.drew ?_ | refine Below.alloc ?_ (by simp <;> omega) _))
  · have hw : wallOf d = d := if_neg hd
    have he : extOf d = 0 := if_neg hd
    rw [hw, he]
    clear hw he
    have hm := and_mono d (by omega) (by omega)
    have ho := zero_or d (by omega) (by omega)
    go_enter Yba.func6, Yba.ntmps6
    go_wp2_with (first
      | (go_at_call 11; refine (nsec_any _ 0 _ (by simp [go_sem]) (by omega) (by omega)).mono ?_; rintro e w' ⟨rfl, rfl⟩)
      | (go_at_call 12; refine (addSec_any _ d 0 _ (by simp [go_sem]) (by omega) (by omega) (by simp [go_sem]) (by simp [go_sem]) (.inl rfl)).mono ?_; rintro e w' ⟨rfl, rfl⟩))
    (try simp only [Exit.inBlock, Exit.then])
    refine bodyPost_ret (v := timeV d 0) ?_ rfl ⟨rfl, ?_⟩
    · rw [results_cell1 rfl]
      go_simp
    (repeat' (first | exact Below.refl _ _ | refine Below.drew ?_ | refine Below.alloc ?_ (by simp <;> omega) _))

theorem equal_same (x y : Int) (w : World) (h0 : 0 ≤ x) (h1 : x < 1073741824) :
    Calls Yba.prog 9 #[timeV x y, timeV x y] w fun e w' => e = .returned (.bool true) ∧ Below w.heap.size w w' := by
  have hs := and_self x h0 h1
  have hm := and_mono x h0 h1
  go_enter Yba.func9, Yba.ntmps9
  go_wp2_with (first
    | (go_at_call 11; refine (nsec_any _ x _ (by simp [go_sem]) h0 h1).mono ?_; rintro e w' ⟨rfl, rfl⟩)
    | (go_at_call 19; refine (sec_any _ x y _ (by simp [go_sem]) h0 h1 (by simp [go_sem])).mono ?_; rintro e w' ⟨rfl, rfl⟩))
  go_ret
  refine ⟨rfl, ?_⟩
  (repeat' (first | exact Below.refl _ _ | refine Below.drew ?_ | refine Below.alloc ?_ (by simp <;> omega) _))

theorem wall_bounds (d : Int) (h0 : -32768 ≤ d) (h1 : d ≤ 32767) : 0 ≤ wallOf d ∧ wallOf d < 1073741824 ∧ -1 ≤ extOf d ∧ extOf d ≤ 0 ∧ extOf d * 1000000000 + wallOf d = d ∧ wallOf d < 1000000000 := by
  unfold wallOf extOf
  split <;> omega

/-- What Sub's two boxes hold. -/
structure SubS (B : Nat) (x y : Int) (w w' : World) : Prop where
  c0 : w'.cell? ⟨B, 0, none⟩ = some (.int .u64 x)
  c1 : w'.cell? ⟨B, 1, none⟩ = some (.int .i64 y)
  c2 : w'.cell? ⟨B, 2, none⟩ = some (.pointer none)
  d0 : w'.cell? ⟨B + 1, 0, none⟩ = some (.int .u64 0)
  d1 : w'.cell? ⟨B + 1, 1, none⟩ = some (.int .i64 0)
  d2 : w'.cell? ⟨B + 1, 2, none⟩ = some (.pointer none)
  bl : Below w.heap.size w w'
def SubB (w w' : World) : Prop := Below w.heap.size w w'
abbrev SubC (B : Nat) (x y : Int) (w w' : World) : Prop := w'.cell? ⟨B, 0, none⟩ = some (.int .u64 x) ∧ w'.cell? ⟨B, 1, none⟩ = some (.int .i64 y) ∧ w'.cell? ⟨B, 2, none⟩ = some (.pointer none) ∧ w'.cell? ⟨B + 1, 0, none⟩ = some (.int .u64 0) ∧ w'.cell? ⟨B + 1, 1, none⟩ = some (.int .i64 0) ∧ w'.cell? ⟨B + 1, 2, none⟩ = some (.pointer none) ∧ SubB w w'
theorem SubS.out {B : Nat} {x y : Int} {w w' : World} (h : SubS B x y w w') : SubC B x y w w'.drew := ⟨h.c0, h.c1, h.c2, h.d0, h.d1, h.d2, h.bl.drew⟩
theorem Below.keepCell {w w' : World} {p : Addr} {v : Value} (h : Below w.heap.size w w') (hc : w.cell? p = some v) : w'.cell? p = some v := by
  rw [World.cell?_of_block (w := w) (h.block p.block (World.block_lt_of_cell? _ _ hc))]
  exact hc
theorem SubS.keep {B : Nat} {x y : Int} {w w' w2 : World} (h : SubC B x y w w') (hB : Below w'.heap.size w' w2) : SubC B x y w w2 :=
  ⟨Below.keepCell hB h.1, Below.keepCell hB h.2.1, Below.keepCell hB h.2.2.1, Below.keepCell hB h.2.2.2.1, Below.keepCell hB h.2.2.2.2.1, Below.keepCell hB h.2.2.2.2.2.1, Below.trans h.2.2.2.2.2.2 (hB.mono (Below.size h.2.2.2.2.2.2))⟩

theorem sub_any (d : Int) (w : World) (h0 : -32768 ≤ d) (h1 : d ≤ 32767) :
    Calls Yba.prog 22 #[timeV (wallOf d) (extOf d), timeV 0 0] w fun e w' => e = .returned (.int .i64 d) ∧ Below w.heap.size w w' := by
  obtain ⟨b0, b1, b2, b3, b4, b5⟩ := wall_bounds d h0 h1
  generalize hx : wallOf d = x at b0 b1 b4 b5
  generalize hy : extOf d = y at b2 b3 b4
  have hadd := fun w => add_any d w h0 h1
  rw [hx, hy] at hadd
  have hs := and_zero x b0 b1
  have hm := and0m
  go_enter Yba.func22, Yba.ntmps22
  go_wp2_with fail
  have hbl : Below w.heap.size w ((w.alloc (Obj.cells #[Value.int IntKind.u64 x, Value.int IntKind.i64 y, Value.pointer none] 28)).alloc (Obj.cells #[Value.int IntKind.u64 0, Value.int IntKind.i64 0, Value.pointer none] 28)) := by
    (repeat' (first | exact Below.refl _ _ | refine Below.drew ?_ | refine Below.alloc ?_ (by simp <;> omega) _))
  have hS : SubS w.heap.size x y w ((w.alloc (Obj.cells #[Value.int IntKind.u64 x, Value.int IntKind.i64 y, Value.pointer none] 28)).alloc (Obj.cells #[Value.int IntKind.u64 0, Value.int IntKind.i64 0, Value.pointer none] 28)) := by
    refine ⟨?_, ?_, ?_, ?_, ?_, ?_, hbl⟩ <;> simp [go_sem]
  clear hbl
  generalize ((w.alloc (Obj.cells #[Value.int IntKind.u64 x, Value.int IntKind.i64 y, Value.pointer none] 28)).alloc (Obj.cells #[Value.int IntKind.u64 0, Value.int IntKind.i64 0, Value.pointer none] 28)) = W at hS ⊢
  generalize hB : w.heap.size = B at hS ⊢
  refine (sec_any _ x y _ hS.c0 b0 b1 hS.c1).mono ?_
  rintro e w' ⟨rfl, rfl⟩
  go_wp2_with fail
  refine (sec_any _ 0 0 _ hS.d0 (by omega) (by omega) hS.d1).mono ?_
  rintro e w' ⟨rfl, rfl⟩
  go_wp2_with fail
  refine (nsec_any _ x _ hS.c0 b0 b1).mono ?_
  rintro e w' ⟨rfl, rfl⟩
  go_wp2_with fail
  refine (nsec_any _ 0 _ hS.d0 (by omega) (by omega)).mono ?_
  rintro e w' ⟨rfl, rfl⟩
  go_wp2_with fail
  go_region_held3 (fun w' => w'.cell? ⟨B, 0, none⟩ = some (.int .u64 x) ∧ w'.cell? ⟨B, 1, none⟩ = some (.int .i64 y) ∧ w'.cell? ⟨B, 2, none⟩ = some (.pointer none) ∧ w'.cell? ⟨B + 1, 0, none⟩ = some (.int .u64 0) ∧ w'.cell? ⟨B + 1, 1, none⟩ = some (.int .i64 0) ∧ w'.cell? ⟨B + 1, 2, none⟩ = some (.pointer none) ∧ SubB w w') (first | exact hS.out | assumption)
    (first
      | (go_at_call 6; refine (hadd _).mono ?_; rintro e w' ⟨rfl, hB1⟩; have hS1 := SubS.keep ‹_› hB1)
      | (go_at_call 9; refine (equal_same x y _ b0 b1).mono ?_; rintro e w' ⟨rfl, hB1⟩; have hS2 := SubS.keep ‹_› hB1))
  subst hB
  go_wp2
  go_ret
  exact ⟨rfl, hS2.2.2.2.2.2.2⟩

/-! ### THE FRAME: w' is w but for the blocks of S and new ones -/
structure Fr (S : Nat → Prop) (w w' : World) : Prop where
  os : w'.os = w.os
  tape : w'.tape = w.tape
  output : w'.output = w.output
  size : w.heap.size ≤ w'.heap.size
  block : ∀ k, k < w.heap.size → ¬ S k → w'.heap[k]? = w.heap[k]?

theorem Fr.refl (S : Nat → Prop) (w : World) : Fr S w w := ⟨rfl, rfl, rfl, Nat.le_refl _, fun _ _ _ => rfl⟩
theorem Fr.trans {S : Nat → Prop} {a b c : World} (h : Fr S a b) (k : Fr S b c) : Fr S a c :=
  ⟨k.os.trans h.os, k.tape.trans h.tape, k.output.trans h.output, Nat.le_trans h.size k.size, fun i hi hs => (k.block i (Nat.lt_of_lt_of_le hi h.size) hs).trans (h.block i hi hs)⟩
theorem Fr.mono {S S' : Nat → Prop} {w w' : World} (h : Fr S w w') (hs : ∀ k, S k → S' k) : Fr S' w w' :=
  ⟨h.os, h.tape, h.output, h.size, fun k hk hn => h.block k hk (fun x => hn (hs k x))⟩
theorem Fr.drew {S : Nat → Prop} {a b : World} (h : Fr S a b) : Fr S a b.drew := ⟨h.os, h.tape, h.output, h.size, h.block⟩
theorem Fr.alloc {S : Nat → Prop} {a b : World} (h : Fr S a b) (o : Obj) : Fr S a (b.alloc o) :=
  h.trans ⟨rfl, rfl, rfl, by simp, fun k hk _ => Below.heap_alloc _ _ _ hk⟩
theorem Fr.setCell {S : Nat → Prop} {a b : World} (h : Fr S a b) {p : Addr} (hp : S p.block ∨ a.heap.size ≤ p.block) (u : Value) : Fr S a (b.setCell p u) :=
  ⟨h.os, h.tape, h.output, by simpa [World.setCell] using h.size, fun k hk hs => by
    rw [Below.heap_setCell _ _ _ _ (by rintro rfl; rcases hp with hp | hp; exact hs hp; omega)]
    exact h.block k hk hs⟩
theorem Fr.ofBelow {S : Nat → Prop} {w w' : World} (h : Below w.heap.size w w') : Fr S w w' := ⟨h.os, h.tape, h.output, h.size, fun k hk _ => h.block k hk⟩
theorem Fr.below {S : Nat → Prop} {w w' : World} (h : Fr S w w') {B : Nat} (hb : B ≤ w.heap.size) (hs : ∀ k, k < B → ¬ S k) : Below B w w' :=
  ⟨h.os, h.tape, h.output, h.size, fun k hk => h.block k (Nat.lt_of_lt_of_le hk hb) (hs k hk)⟩
theorem Fr.cell {S : Nat → Prop} {w w' : World} (h : Fr S w w') {p : Addr} {v : Value} (hc : w.cell? p = some v) (hs : ¬ S p.block) : w'.cell? p = some v := by
  rw [World.cell?_of_block (w := w) (h.block p.block (World.block_lt_of_cell? _ _ hc) hs)]
  exact hc
theorem Fr.frozen {S : Nat → Prop} {w w' : World} (h : Fr S w w') {p : Addr} (hl : p.block < w.heap.size) (hs : ¬ S p.block) : w'.frozen? p = w.frozen? p :=
  World.frozen?_of_block (w := w) (h.block p.block hl hs)

/-- The law's clock: it counts its calls, and reads the zero time plus 'now'. -/
theorem clk_any (bc bb bn : Nat) (c T : Int) (w : World) (hc : w.cell? ⟨bc, 0, none⟩ = some (.int .i64 c)) (zc : w.frozen? ⟨bc, 0, none⟩ = false)
    (h0 : w.cell? ⟨bb, 0, none⟩ = some (.int .u64 0)) (h1 : w.cell? ⟨bb, 1, none⟩ = some (.int .i64 0)) (h2 : w.cell? ⟨bb, 2, none⟩ = some (.pointer none))
    (hn : w.cell? ⟨bn, 0, none⟩ = some (.int .i64 T)) (nb : bc ≠ bb) (nn : bc ≠ bn) (c0 : 0 ≤ c) (c1 : c < 100000) (t0 : -32768 ≤ T) (t1 : T ≤ 32767) :
    Calls Yba.prog 5 #[.pointer (some ⟨bc, 0, none⟩), .pointer (some ⟨bb, 0, none⟩), .pointer (some ⟨bn, 0, none⟩)] w fun e w' =>
      e = .returned (timeV (wallOf T) (extOf T)) ∧ w'.cell? ⟨bc, 0, none⟩ = some (.int .i64 (c + 1)) ∧ w'.frozen? ⟨bc, 0, none⟩ = false ∧ Fr (· = bc) w w' := by
  have lc := World.block_lt_of_cell? _ _ hc
  have lb := World.block_lt_of_cell? _ _ h0
  have ln := World.block_lt_of_cell? _ _ hn
  have ec := World.new_ne w _ hc
  have eb := World.new_ne w _ h0
  have en := World.new_ne w _ hn
  go_enter Yba.func5, Yba.ntmps5
  go_wp2_with fail
  have hF1 : Fr (· = bc) w ((w.setCell ⟨bc, 0, none⟩ (.int .i64 (c + 1))).alloc (Obj.cells #[.int .u64 0, .int .i64 0, .pointer none] 28)) := ((Fr.refl (· = bc) w).setCell (p := ⟨bc, 0, none⟩) (.inl rfl) _).alloc _
  have k0 : ((w.setCell ⟨bc, 0, none⟩ (.int .i64 (c + 1))).alloc (Obj.cells #[.int .u64 0, .int .i64 0, .pointer none] 28)).cell? ⟨w.heap.size, 0, none⟩ = some (.int .u64 0) := by simp [go_sem]
  have k1 : ((w.setCell ⟨bc, 0, none⟩ (.int .i64 (c + 1))).alloc (Obj.cells #[.int .u64 0, .int .i64 0, .pointer none] 28)).cell? ⟨w.heap.size, 1, none⟩ = some (.int .i64 0) := by simp [go_sem]
  have k2 : ((w.setCell ⟨bc, 0, none⟩ (.int .i64 (c + 1))).alloc (Obj.cells #[.int .u64 0, .int .i64 0, .pointer none] 28)).cell? ⟨w.heap.size, 2, none⟩ = some (.pointer none) := by simp [go_sem]
  have z0 : ∀ i, ((w.setCell ⟨bc, 0, none⟩ (.int .i64 (c + 1))).alloc (Obj.cells #[.int .u64 0, .int .i64 0, .pointer none] 28)).frozen? ⟨w.heap.size, i, none⟩ = false := fun i => by simp [go_sem]
  have kc : ((w.setCell ⟨bc, 0, none⟩ (.int .i64 (c + 1))).alloc (Obj.cells #[.int .u64 0, .int .i64 0, .pointer none] 28)).cell? ⟨bc, 0, none⟩ = some (.int .i64 (c + 1)) := by
    rw [World.cell?_alloc_lt _ _ _ (by simpa using lc)]
    exact World.cell?_setCell_same _ _ _ hc
  have kz : ((w.setCell ⟨bc, 0, none⟩ (.int .i64 (c + 1))).alloc (Obj.cells #[.int .u64 0, .int .i64 0, .pointer none] 28)).frozen? ⟨bc, 0, none⟩ = false := by
    rw [World.frozen?_of_block (Below.heap_alloc _ _ _ (by simpa using lc))]
    simpa using zc
  have hsz : w.heap.size < ((w.setCell ⟨bc, 0, none⟩ (.int .i64 (c + 1))).alloc (Obj.cells #[.int .u64 0, .int .i64 0, .pointer none] 28)).heap.size := by simp
  generalize ((w.setCell ⟨bc, 0, none⟩ (.int .i64 (c + 1))).alloc (Obj.cells #[.int .u64 0, .int .i64 0, .pointer none] 28)) = W at *
  refine (add_any T _ t0 t1).mono ?_
  rintro e w2 ⟨rfl, hB2⟩
  have q0 := Below.keepCell hB2 k0
  have q1 := Below.keepCell hB2 k1
  have q2 := Below.keepCell hB2 k2
  have qc := Below.keepCell hB2 kc
  have zz : ∀ i, w2.frozen? ⟨w.heap.size, i, none⟩ = false := fun i => (World.frozen?_of_block (hB2.block _ hsz)).trans (z0 i)
  have zd := zz 0
  have ze := zz 1
  have zf := zz 2
  have zc2 : w2.frozen? ⟨bc, 0, none⟩ = false := (World.frozen?_of_block (hB2.block _ (Nat.lt_trans lc hsz))).trans kz
  have hF2 : Fr (· = bc) w w2 := hF1.trans (Fr.ofBelow hB2)
  clear hF1 k0 k1 k2 z0 kc kz hsz hB2 zz
  go_wp2
  (try simp only [Exit.inBlock, Exit.then])
  refine bodyPost_ret (v := timeV (wallOf T) (extOf T)) ?_ rfl ⟨rfl, ?_, ?_, ?_⟩
  · rw [results_cell1 rfl]
    go_simp
  · simpa [World.cell?_setCell_far, ec] using qc
  · simpa using zc2
  · exact ((hF2.setCell (.inr (Nat.le_refl _)) _).setCell (.inr (Nat.le_refl _)) _).setCell (.inr (Nat.le_refl _)) _
end Go.Proofs.Ybulkchjm
