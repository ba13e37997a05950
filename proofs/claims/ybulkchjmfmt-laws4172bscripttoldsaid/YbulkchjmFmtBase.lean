/-
  THE SMALL CALLEES (names, keys, reweigh without a ranking), the frame 'Fr', and the laws of MapIs at a walk's operation.
-/
import Derived.Test.YbulkchjmFmtMaps
import Derived.WalkKit
import Derived.WalkSpells
import Derived.WalkLawsBesides
import Derived.Deep.QuietTactic
import Derived.BigQuiet
namespace Go.Proofs.YbulkchjmFmt
open Go.RowKit Go.Maps Go.WideMaps

def nameS : Nat → ByteArray
  | 0 => ⟨#[98, 48]⟩
  | 1 => ⟨#[98, 49]⟩
  | _ => ⟨#[98, 50]⟩
def keyS : Nat → ByteArray
  | 0 => ⟨#[97]⟩
  | 1 => ⟨#[98]⟩
  | _ => ⟨#[99]⟩

theorem nameFam : KeyFam nameS where
  inj i j hi hj h := by
    match i, j, hi, hj with
    | 0, 0, _, _ | 1, 1, _, _ | 2, 2, _, _ => rfl
    | 0, 1, _, _ | 0, 2, _, _ | 1, 0, _, _ | 1, 2, _, _ | 2, 0, _, _ | 2, 1, _, _ => exact absurd h (by simp [nameS])
  small i := by
    match i with
    | 0 | 1 | _ + 2 => exact (by decide : 2 ≤ maxLen)
theorem keyFam : KeyFam keyS where
  inj i j hi hj h := by
    match i, j, hi, hj with
    | 0, 0, _, _ | 1, 1, _, _ | 2, 2, _, _ => rfl
    | 0, 1, _, _ | 0, 2, _, _ | 1, 0, _, _ | 1, 2, _, _ | 2, 0, _, _ | 2, 1, _, _ => exact absurd h (by simp [keyS])
  small i := by
    match i with
    | 0 | 1 | _ + 2 => exact (by decide : 1 ≤ maxLen)

theorem name_any (k : Nat) (w : World) : Calls Ybaf.prog 4 #[.int .i64 k] w fun e w' => e = .returned (.string (nameS k)) ∧ w = w' := by
  match k with
  | 0 | 1 =>
    go_enter Ybaf.func4, Ybaf.ntmps4
    go_wp2
    go_ret
    exact ⟨rfl, rfl⟩
  | k + 2 =>
    have h0 : (((k + 2 : Nat) : Int) == 0) = false := beq_eq_false_iff_ne.2 (by omega)
    have h1 : (((k + 2 : Nat) : Int) == 1) = false := beq_eq_false_iff_ne.2 (by omega)
    go_enter Ybaf.func4, Ybaf.ntmps4
    go_wp2
    go_ret
    exact ⟨rfl, rfl⟩

theorem key_any (k : Nat) (w : World) : Calls Ybaf.prog 6 #[.int .i64 k] w fun e w' => e = .returned (.string (keyS k)) ∧ w = w' := by
  match k with
  | 0 | 1 =>
    go_enter Ybaf.func6, Ybaf.ntmps6
    go_wp2
    go_ret
    exact ⟨rfl, rfl⟩
  | k + 2 =>
    have h0 : (((k + 2 : Nat) : Int) == 0) = false := beq_eq_false_iff_ne.2 (by omega)
    have h1 : (((k + 2 : Nat) : Int) == 1) = false := beq_eq_false_iff_ne.2 (by omega)
    go_enter Ybaf.func6, Ybaf.ntmps6
    go_wp2
    go_ret
    exact ⟨rfl, rfl⟩

/-- No ranking: nothing happens. -/
theorem reweigh_nil (b : Nat) (p : Value) (w : World) (h : w.cell? ⟨b, 33, none⟩ = some (.pointer none)) :
    Calls Ybaf.prog 7 #[.pointer (some ⟨b, 0, none⟩), p] w fun e w' => e = .returned (.tuple #[]) ∧ w = w' := by
  go_enter Ybaf.func7, Ybaf.ntmps7
  go_wp2
  go_end0
  exact ⟨rfl, rfl⟩

/-! ### THE FRAME: w' is w but for the blocks of S and new ones -/
structure Fr (S : Nat → Prop) (w w' : World) : Prop where
  os : w'.os = w.os
  tape : w'.tape = w.tape
  output : w'.output = w.output
  size : w.heap.size ≤ w'.heap.size
  block : ∀ k, k < w.heap.size → ¬ S k → w'.heap[k]? = w.heap[k]?

theorem Fr.refl (S : Nat → Prop) (w : World) : Fr S w w := ⟨rfl, rfl, rfl, Nat.le_refl _, fun _ _ _ => rfl⟩
theorem Fr.trans {S : Nat → Prop} {a b c : World} (h : Fr S a b) (k : Fr S b c) : Fr S a c :=
  ⟨k.os.trans h.os, k.tape.trans h.tape, k.output.trans h.output, Nat.le_trans h.size k.size, fun i hi hs => (k.block i (Nat.lt_of_lt_of_le hi h.size) hs).trans (h.block i hi hs)⟩
/-- Two steps, the second of which may also write what is new to the first. -/
theorem Fr.trans' {S S' : Nat → Prop} {a b c : World} (h : Fr S a b) (k : Fr S' b c) (hs : ∀ i, i < a.heap.size → S' i → S i) : Fr S a c :=
  ⟨k.os.trans h.os, k.tape.trans h.tape, k.output.trans h.output, Nat.le_trans h.size k.size, fun i hi hn => (k.block i (Nat.lt_of_lt_of_le hi h.size) (fun x => hn (hs i hi x))).trans (h.block i hi hn)⟩
theorem Fr.drewN {S : Nat → Prop} {a b : World} (h : Fr S a b) (n : Nat) : Fr S a (b.drewN n) := ⟨h.os, h.tape, h.output, h.size, h.block⟩
theorem Fr.drew {S : Nat → Prop} {a b : World} (h : Fr S a b) : Fr S a b.drew := ⟨h.os, h.tape, h.output, h.size, h.block⟩
theorem Fr.alloc {S : Nat → Prop} {a b : World} (h : Fr S a b) (o : Obj) : Fr S a (b.alloc o) :=
  h.trans ⟨rfl, rfl, rfl, by simp, fun k hk _ => Below.heap_alloc _ _ _ hk⟩
theorem Fr.setCell {S : Nat → Prop} {a b : World} (h : Fr S a b) {p : Addr} (hp : S p.block ∨ a.heap.size ≤ p.block) (u : Value) : Fr S a (b.setCell p u) :=
  ⟨h.os, h.tape, h.output, by simpa [World.setCell] using h.size, fun k hk hs => by
    rw [Below.heap_setCell _ _ _ _ (by rintro rfl; rcases hp with hp | hp; exact hs hp; omega)]
    exact h.block k hk hs⟩
theorem Fr.grown {S : Nat → Prop} {a b c : World} {row : Option Nat} (h : Fr S a b) (hg : b.grownBy c row) (hr : ∀ k, row = some k → S k ∨ a.heap.size ≤ k) : Fr S a c :=
  ⟨hg.os.trans h.os, hg.tape.trans h.tape, hg.output.trans h.output, Nat.le_trans h.size hg.size, fun k hk hs => by
    rw [hg.block k (Nat.lt_of_lt_of_le hk h.size) (fun e => by rcases hr k e.symm with x | x; exact hs x; omega)]
    exact h.block k hk hs⟩
theorem Fr.below {S : Nat → Prop} {w w' : World} (h : Fr S w w') (hs : ∀ k, k < w.heap.size → ¬ S k) : Below w.heap.size w w' :=
  ⟨h.os, h.tape, h.output, h.size, fun k hk => h.block k hk (hs k hk)⟩
theorem Fr.mono {S S' : Nat → Prop} {w w' : World} (h : Fr S w w') (hs : ∀ k, S k → S' k) : Fr S' w w' :=
  ⟨h.os, h.tape, h.output, h.size, fun k hk hn => h.block k hk (fun x => hn (hs k x))⟩
theorem Fr.cell {S : Nat → Prop} {w w' : World} (h : Fr S w w') {p : Addr} {v : Value} (hc : w.cell? p = some v) (hs : ¬ S p.block) : w'.cell? p = some v := by
  rw [World.cell?_of_block (w := w) (h.block p.block (World.block_lt_of_cell? _ _ hc) hs)]
  exact hc
theorem Fr.frozen {S : Nat → Prop} {w w' : World} (h : Fr S w w') {p : Addr} (hl : p.block < w.heap.size) (hs : ¬ S p.block) : w'.frozen? p = w.frozen? p :=
  World.frozen?_of_block (w := w) (h.block p.block hl hs)
theorem Fr.map {S : Nat → Prop} {w w' : World} {b : Nat} {ky : Nat → ByteArray} {f : Nat → Option Value} (h : Fr S w w') (hm : MapIs w b ky f) (hs : ¬ S b) : MapIs w' b ky f := hm.same (h.block b hm.lt hs)
theorem MapIs.grown {w w' : World} {b c : Nat} {ky : Nat → ByteArray} {f : Nat → Option Value} (hm : MapIs w b ky f) (hg : w.grownBy w' (some c)) (hne : b ≠ c) : MapIs w' b ky f := hm.same (hg.block b hm.lt (by simpa using hne))
theorem MapIs.drewN {w : World} {b : Nat} {ky : Nat → ByteArray} {f : Nat → Option Value} (hm : MapIs w b ky f) (n : Nat) : MapIs (w.drewN n) b ky f := hm

/-! ### MapIs AT AN OPERATION -/
section
variable {w : World} {ops : Array Oper} {rest : List Oper} {o : Oper} {a : Act} {Q : Exit → Act → World → Prop}

theorem wpList_put (hg : o.guard = none) (m x v : Operand) (t e : TypeId) (hop : o.op = Op.mapUpdate t m x v) (ht : Ybaf.prog.underlying t = some (.map 9 e))
    (b : Nat) (ky : Nat → ByteArray) (f : Nat → Option Value) (F : KeyFam ky) (k : Nat) (val : Value) (hm : a.eval m = .map (some b)) (hx : a.eval x = .string (ky k)) (hv : a.eval v = val) (h : MapIs w b ky f) (hk : k < 3)
    (hK : ∀ w', MapIs w' b ky (upd f k (some val)) → w.grownBy w' (some b) → wpList Ybaf.prog ops Q rest (a.put o.dst undef) w') : wpList Ybaf.prog ops Q (o :: rest) a w := by
  refine wpList_plain hg fun K' hK' => ?_
  obtain ⟨w', hrun, r1, r2, _⟩ := h.put F ht hk val
  unfold Oper.wp
  simp [execOp, hop, hm, hx, hv, hrun, Result.andThen]
  exact hK' _ _ (hK w' r1 r2)

theorem wpList_del (hg : o.guard = none) (m x : Operand) (t e : TypeId) (hop : o.op = Op.call { callee := Callee.builtin Builtin.delete, args := #[m, x], argTypes := #[t, 9] }) (ht : Ybaf.prog.underlying t = some (.map 9 e))
    (b : Nat) (ky : Nat → ByteArray) (f : Nat → Option Value) (F : KeyFam ky) (k : Nat) (hm : a.eval m = .map (some b)) (hx : a.eval x = .string (ky k)) (h : MapIs w b ky f) (hk : k < 3)
    (hK : ∀ w', MapIs w' b ky (upd f k none) → w.grownBy w' (some b) → wpList Ybaf.prog ops Q rest (a.put o.dst (.tuple #[])) w') : wpList Ybaf.prog ops Q (o :: rest) a w := by
  refine wpList_plain hg fun K' hK' => ?_
  obtain ⟨w', hrun, r1, r2⟩ := h.del F ht hk o.type
  unfold Oper.wp
  simp [execOp, hop, resolve, invoke, builtin, hm, hx, hrun, Result.andThen]
  exact hK' _ _ (hK w' r1 r2)
end
end Go.Proofs.YbulkchjmFmt
