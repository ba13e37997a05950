/-
  WHAT THE SERVICE's MEMORY HOLDS BETWEEN TWO ASSIGNS ('Core'), and how it stands behind a map's turn, a draw, a write elsewhere.
-/
import Derived.Test.YbulkchjmFmtBase
namespace Go.Proofs.YbulkchjmFmt
open Go.RowKit Go.Maps Go.WideMaps

def brk (B i : Nat) : Value := .pointer (some ⟨B + 7 + 3 * i, 0, none⟩)

structure Core (B nb : Nat) (evs : Value) (own : Nat → Option Nat) (ow pl : Nat → Nat → Option Value) (w : World) : Prop where
  e : w.cell? ⟨B + 2, 25, none⟩ = some evs
  m : w.cell? ⟨B + 2, 30, none⟩ = some (.map (some B))
  o : w.cell? ⟨B + 2, 32, none⟩ = some (.map (some (B + 1)))
  r : w.cell? ⟨B + 2, 33, none⟩ = some (.pointer none)
  names : MapIs w B nameS (fun i => if i < nb then some (brk B i) else none)
  owners : MapIs w (B + 1) keyS (fun k => (own k).map (brk B))
  name : ∀ i, i < nb → w.cell? ⟨B + 7 + 3 * i, 0, none⟩ = some (.string (nameS i))
  owc : ∀ i, i < nb → w.cell? ⟨B + 7 + 3 * i, 6, none⟩ = some (.map (some (B + 5 + 3 * i)))
  plc : ∀ i, i < nb → w.cell? ⟨B + 7 + 3 * i, 7, none⟩ = some (.map (some (B + 6 + 3 * i)))
  owm : ∀ i, i < nb → MapIs w (B + 5 + 3 * i) keyS (ow i)
  plm : ∀ i, i < nb → MapIs w (B + 6 + 3 * i) keyS (pl i)

/-- The blocks of Core. -/
def InCore (B nb b : Nat) : Prop := b = B ∨ b = B + 1 ∨ b = B + 2 ∨ (B + 5 ≤ b ∧ b < B + 5 + 3 * nb)
/-- The blocks that an assign may turn (without the log). -/
def Turned (B nb b : Nat) : Prop := b = B + 1 ∨ (B + 5 ≤ b ∧ b < B + 5 + 3 * nb)

section
variable {B nb : Nat} {evs : Value} {own : Nat → Option Nat} {ow pl : Nat → Nat → Option Value} {w w' : World}

theorem cell_of_same {p : Addr} {v : Value} (h : w'.heap[p.block]? = w.heap[p.block]?) (hc : w.cell? p = some v) : w'.cell? p = some v := (World.cell?_of_block (w := w) h).trans hc

theorem Core.same (h : Core B nb evs own ow pl w) (hs : ∀ b, InCore B nb b → w'.heap[b]? = w.heap[b]?) : Core B nb evs own ow pl w' where
  e := cell_of_same (hs _ (.inr (.inr (.inl rfl)))) h.e
  m := cell_of_same (hs _ (.inr (.inr (.inl rfl)))) h.m
  o := cell_of_same (hs _ (.inr (.inr (.inl rfl)))) h.o
  r := cell_of_same (hs _ (.inr (.inr (.inl rfl)))) h.r
  names := h.names.same (hs _ (.inl rfl))
  owners := h.owners.same (hs _ (.inr (.inl rfl)))
  name i hi := cell_of_same (hs _ (.inr (.inr (.inr (by show _ ≤ B + 7 + 3 * i ∧ B + 7 + 3 * i < _; omega))))) (h.name i hi)
  owc i hi := cell_of_same (hs _ (.inr (.inr (.inr (by show _ ≤ B + 7 + 3 * i ∧ B + 7 + 3 * i < _; omega))))) (h.owc i hi)
  plc i hi := cell_of_same (hs _ (.inr (.inr (.inr (by show _ ≤ B + 7 + 3 * i ∧ B + 7 + 3 * i < _; omega))))) (h.plc i hi)
  owm i hi := (h.owm i hi).same (hs _ (.inr (.inr (.inr (by omega)))))
  plm i hi := (h.plm i hi).same (hs _ (.inr (.inr (.inr (by omega)))))

theorem Core.lt (h : Core B nb evs own ow pl w) {b : Nat} (hb : InCore B nb b) : b < w.heap.size := by
  have h0 := h.names.lt
  have h2 : B + 2 < w.heap.size := World.block_lt_of_cell? _ _ h.e
  rcases hb with rfl | rfl | rfl | hb
  · omega
  · omega
  · omega
  · have h3 : B + 7 + 3 * (nb - 1) < w.heap.size := World.block_lt_of_cell? _ _ (h.name (nb - 1) (by omega))
    omega

theorem Core.fr {S : Nat → Prop} (h : Core B nb evs own ow pl w) (hf : Fr S w w') (hs : ∀ b, InCore B nb b → ¬ S b) : Core B nb evs own ow pl w' :=
  h.same fun b hb => hf.block b (h.lt hb) (hs b hb)

theorem Core.drewN (h : Core B nb evs own ow pl w) (n : Nat) : Core B nb evs own ow pl (w.drewN n) := h.same fun _ _ => rfl
theorem Core.drew (h : Core B nb evs own ow pl w) : Core B nb evs own ow pl w.drew := h.same fun _ _ => rfl
theorem Core.alloc (h : Core B nb evs own ow pl w) (o : Obj) : Core B nb evs own ow pl (w.alloc o) := h.same fun _ hb => Below.heap_alloc _ _ _ (h.lt hb)

theorem cell_grown {c : Nat} {p : Addr} {v : Value} (hg : w.grownBy w' (some c)) (hc : w.cell? p = some v) (hne : p.block ≠ c) : w'.cell? p = some v :=
  cell_of_same (hg.block p.block (World.block_lt_of_cell? _ _ hc) (by simpa using hne)) hc

theorem Core.turnOw (h : Core B nb evs own ow pl w) {i : Nat} {g : Nat → Option Value} (hg : w.grownBy w' (some (B + 5 + 3 * i))) (hm : MapIs w' (B + 5 + 3 * i) keyS g) : Core B nb evs own (upd ow i g) pl w' where
  e := cell_grown hg h.e (by show B + 2 ≠ _; omega)
  m := cell_grown hg h.m (by show B + 2 ≠ _; omega)
  o := cell_grown hg h.o (by show B + 2 ≠ _; omega)
  r := cell_grown hg h.r (by show B + 2 ≠ _; omega)
  names := h.names.grown hg (by omega)
  owners := h.owners.grown hg (by omega)
  name j hj := cell_grown hg (h.name j hj) (by show B + 7 + 3 * j ≠ _; omega)
  owc j hj := cell_grown hg (h.owc j hj) (by show B + 7 + 3 * j ≠ _; omega)
  plc j hj := cell_grown hg (h.plc j hj) (by show B + 7 + 3 * j ≠ _; omega)
  owm j hj := by
    by_cases e : j = i
    · subst e; rw [upd_same]; exact hm
    · rw [upd_other ow e]; exact (h.owm j hj).grown hg (by omega)
  plm j hj := (h.plm j hj).grown hg (by omega)

theorem Core.turnPl (h : Core B nb evs own ow pl w) {i : Nat} {g : Nat → Option Value} (hg : w.grownBy w' (some (B + 6 + 3 * i))) (hm : MapIs w' (B + 6 + 3 * i) keyS g) : Core B nb evs own ow (upd pl i g) w' where
  e := cell_grown hg h.e (by show B + 2 ≠ _; omega)
  m := cell_grown hg h.m (by show B + 2 ≠ _; omega)
  o := cell_grown hg h.o (by show B + 2 ≠ _; omega)
  r := cell_grown hg h.r (by show B + 2 ≠ _; omega)
  names := h.names.grown hg (by omega)
  owners := h.owners.grown hg (by omega)
  name j hj := cell_grown hg (h.name j hj) (by show B + 7 + 3 * j ≠ _; omega)
  owc j hj := cell_grown hg (h.owc j hj) (by show B + 7 + 3 * j ≠ _; omega)
  plc j hj := cell_grown hg (h.plc j hj) (by show B + 7 + 3 * j ≠ _; omega)
  owm j hj := (h.owm j hj).grown hg (by omega)
  plm j hj := by
    by_cases e : j = i
    · subst e; rw [upd_same]; exact hm
    · rw [upd_other pl e]; exact (h.plm j hj).grown hg (by omega)

theorem Core.turnOwners (h : Core B nb evs own ow pl w) {k j : Nat} (hg : w.grownBy w' (some (B + 1))) (hm : MapIs w' (B + 1) keyS (upd (fun k => (own k).map (brk B)) k (some (brk B j)))) : Core B nb evs (upd own k (some j)) ow pl w' where
  e := cell_grown hg h.e (by show B + 2 ≠ _; omega)
  m := cell_grown hg h.m (by show B + 2 ≠ _; omega)
  o := cell_grown hg h.o (by show B + 2 ≠ _; omega)
  r := cell_grown hg h.r (by show B + 2 ≠ _; omega)
  names := h.names.grown hg (by omega)
  owners := hm.congr fun k' _ => by
    by_cases e : k' = k
    · subst e; rw [upd_same, upd_same]; rfl
    · rw [upd_other _ e, upd_other _ e]
  name j hj := cell_grown hg (h.name j hj) (by show B + 7 + 3 * j ≠ _; omega)
  owc j hj := cell_grown hg (h.owc j hj) (by show B + 7 + 3 * j ≠ _; omega)
  plc j hj := cell_grown hg (h.plc j hj) (by show B + 7 + 3 * j ≠ _; omega)
  owm j hj := (h.owm j hj).grown hg (by omega)
  plm j hj := (h.plm j hj).grown hg (by omega)

theorem Core.congr {own' : Nat → Option Nat} {ow' pl' : Nat → Nat → Option Value} (h : Core B nb evs own ow pl w) (h1 : ∀ k, k < 3 → own k = own' k) (h2 : ∀ i k, i < nb → k < 3 → ow i k = ow' i k) (h3 : ∀ i k, i < nb → k < 3 → pl i k = pl' i k) : Core B nb evs own' ow' pl' w where
  e := h.e
  m := h.m
  o := h.o
  r := h.r
  names := h.names
  owners := h.owners.congr fun k hk => by rw [h1 k hk]
  name := h.name
  owc := h.owc
  plc := h.plc
  owm i hi := (h.owm i hi).congr fun k hk => h2 i k hi hk
  plm i hi := (h.plm i hi).congr fun k hk => h3 i k hi hk
end

/-! ### The ghosts: who owns key k; what it left; was it placed -/
def owOf (own : Nat → Option Nat) (lf : Nat → ByteArray) (i k : Nat) : Option Value := if own k = some i then some (.string (lf k)) else none
def plOf (own : Nat → Option Nat) (pb : Nat → Bool) (i k : Nat) : Option Value := if own k = some i ∧ pb k = true then some (.agg #[]) else none
def fromOf (o : Option Nat) : ByteArray := match o with | none => ⟨#[]⟩ | some i => nameS i

/-- Behind the two deletes. -/
def ow1 (own : Nat → Option Nat) (ow : Nat → Nat → Option Value) (k : Nat) : Nat → Nat → Option Value := match own k with | none => ow | some i => upd ow i (upd (ow i) k none)

theorem ow1_of (own : Nat → Option Nat) (lf : Nat → ByteArray) (k i k' : Nat) : ow1 own (owOf own lf) k i k' = if k' = k then none else owOf own lf i k' := by
  unfold ow1
  cases h : own k with
  | none =>
    by_cases e : k' = k
    · subst e; simp [owOf, h]
    · simp [e]
  | some i0 =>
    by_cases e0 : i = i0
    · subst e0
      simp only [upd_same]
      by_cases e : k' = k
      · subst e; simp [upd_same]
      · simp [upd_other _ e, e]
    · simp only [upd_other _ e0]
      by_cases e : k' = k
      · subst e; simp [owOf, h]; exact fun e1 => e0 e1.symm
      · simp [e]

theorem pl1_of (own : Nat → Option Nat) (pb : Nat → Bool) (k i k' : Nat) : ow1 own (plOf own pb) k i k' = if k' = k then none else plOf own pb i k' := by
  unfold ow1
  cases h : own k with
  | none =>
    by_cases e : k' = k
    · subst e; simp [plOf, h]
    · simp [e]
  | some i0 =>
    by_cases e0 : i = i0
    · subst e0
      simp only [upd_same]
      by_cases e : k' = k
      · subst e; simp [upd_same]
      · simp [upd_other _ e, e]
    · simp only [upd_other _ e0]
      by_cases e : k' = k
      · subst e; simp [plOf, h]; exact fun e1 => absurd e1.symm e0
      · simp [e]

theorem ow2_of (own : Nat → Option Nat) (lf : Nat → ByteArray) (k j : Nat) (from_ : ByteArray) (i k' : Nat) :
    upd (ow1 own (owOf own lf) k) j (upd (ow1 own (owOf own lf) k j) k (some (.string from_))) i k' = owOf (upd own k (some j)) (upd lf k from_) i k' := by
  by_cases e0 : i = j
  · subst e0
    rw [upd_same]
    by_cases e : k' = k
    · subst e; simp [upd_same, owOf]
    · rw [upd_other _ e, ow1_of, if_neg e]
      simp [owOf, upd_other _ e]
  · rw [upd_other _ e0, ow1_of]
    by_cases e : k' = k
    · subst e; simp [owOf, upd_same]; exact fun h => e0 h.symm
    · simp [owOf, upd_other _ e, e]

theorem pl2_yes (own : Nat → Option Nat) (pb : Nat → Bool) (k j i k' : Nat) :
    upd (ow1 own (plOf own pb) k) j (upd (ow1 own (plOf own pb) k j) k (some (.agg #[]))) i k' = plOf (upd own k (some j)) (upd pb k true) i k' := by
  by_cases e0 : i = j
  · subst e0
    rw [upd_same]
    by_cases e : k' = k
    · subst e; simp [upd_same, plOf]
    · rw [upd_other _ e, pl1_of, if_neg e]
      simp [plOf, upd_other _ e]
  · rw [upd_other _ e0, pl1_of]
    by_cases e : k' = k
    · subst e; simp [plOf, upd_same]; exact fun h => e0 h.symm
    · simp [plOf, upd_other _ e, e]

theorem pl2_no (own : Nat → Option Nat) (pb : Nat → Bool) (k j i k' : Nat) :
    ow1 own (plOf own pb) k i k' = plOf (upd own k (some j)) (upd pb k false) i k' := by
  rw [pl1_of]
  by_cases e : k' = k
  · subst e; simp [plOf, upd_same]
  · simp [plOf, upd_other _ e, e]
end Go.Proofs.YbulkchjmFmt
