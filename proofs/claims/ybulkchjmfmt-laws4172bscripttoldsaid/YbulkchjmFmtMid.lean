/-
  LawS4172BScript: what stands in memory between two steps of the script ('Mid'), and the two logs.
-/
import Derived.Test.YbulkchjmFmtInit
namespace Go.Proofs.YbulkchjmFmt
open Go.RowKit Go.Maps Go.WideMaps

def arr3 (f : Nat → Value) : Array Value := #[f 0, f 1, f 2]
theorem arr3_set (f : Nat → Value) {k : Nat} (hk : k < 3) (v : Value) : (arr3 f).setIfInBounds k v = arr3 (upd f k v) := by
  match k, hk with
  | 0, _ | 1, _ | 2, _ => simp [arr3, upd]
theorem arr3_get (f : Nat → Value) {k : Nat} (hk : k < 3) : (arr3 f)[k]? = some (f k) := by
  match k, hk with
  | 0, _ | 1, _ | 2, _ => simp [arr3]

structure Mid (w : World) (nb : Nat) (ev : Bool) (own : Nat → Option Nat) (lf : Nat → ByteArray) (pb : Nat → Bool) (fo fl fp : Nat → Value) (wr : World) : Prop where
  core : Core w.heap.size nb (evOf w.heap.size ev) own (owOf own lf) (plOf own pb) wr
  lt : ∀ k i, k < 3 → own k = some i → i < nb
  bs : ∀ i, i < nb → wr.cell? ⟨w.heap.size + 4, i, none⟩ = some (brk w.heap.size i)
  ao : wr.heap[w.heap.size + 5 + 3 * nb]? = some (.cells (arr3 fo) 70 (0, 0))
  al : wr.heap[w.heap.size + 6 + 3 * nb]? = some (.cells (arr3 fl) 71 (0, 0))
  ap : wr.heap[w.heap.size + 7 + 3 * nb]? = some (.cells (arr3 fp) 72 (0, 0))
  below : Below w.heap.size w wr

def InMid (B nb b : Nat) : Prop := InCore B nb b ∨ b = B + 4 ∨ (B + 5 + 3 * nb ≤ b ∧ b ≤ B + 7 + 3 * nb)

section
variable {w wr w' : World} {nb : Nat} {ev : Bool} {own : Nat → Option Nat} {lf : Nat → ByteArray} {pb : Nat → Bool} {fo fl fp : Nat → Value}

theorem Mid.size (h : Mid w nb ev own lf pb fo fl fp wr) : w.heap.size + 8 + 3 * nb ≤ wr.heap.size := by
  have := (Array.getElem?_eq_some_iff.1 h.ap).1
  omega

theorem Mid.same (h : Mid w nb ev own lf pb fo fl fp wr) (hs : ∀ b, InMid w.heap.size nb b → w'.heap[b]? = wr.heap[b]?) (hb : Below w.heap.size w w') : Mid w nb ev own lf pb fo fl fp w' where
  core := h.core.same fun b hb => hs b (.inl hb)
  lt := h.lt
  bs i hi := cell_of_same (hs _ (.inr (.inl rfl))) (h.bs i hi)
  ao := (hs _ (.inr (.inr (by omega)))).trans h.ao
  al := (hs _ (.inr (.inr (by omega)))).trans h.al
  ap := (hs _ (.inr (.inr (by omega)))).trans h.ap
  below := hb

theorem Mid.inLt (h : Mid w nb ev own lf pb fo fl fp wr) {b : Nat} (hb : InMid w.heap.size nb b) : b < wr.heap.size := by
  have := h.size
  unfold InMid InCore at hb
  omega

theorem Mid.alloc (h : Mid w nb ev own lf pb fo fl fp wr) (o : Obj) : Mid w nb ev own lf pb fo fl fp (wr.alloc o) :=
  h.same (fun b hb => Below.heap_alloc _ _ _ (h.inLt hb)) (h.below.alloc (by have := h.size; omega) o)

theorem Mid.drewN (h : Mid w nb ev own lf pb fo fl fp wr) (n : Nat) : Mid w nb ev own lf pb fo fl fp (wr.drewN n) := h.same (fun _ _ => rfl) (below_drewN h.below n)

theorem Mid.fr {S : Nat → Prop} (h : Mid w nb ev own lf pb fo fl fp wr) (hf : Fr S wr w') (hs : ∀ b, InMid w.heap.size nb b → ¬ S b) (hb : ∀ b, b < w.heap.size → ¬ S b) : Mid w nb ev own lf pb fo fl fp w' :=
  h.same (fun b hb => hf.block b (h.inLt hb) (hs b hb)) (h.below.trans ⟨hf.os, hf.tape, hf.output, hf.size, fun b hlt => hf.block b (by have := h.size; omega) (hb b hlt)⟩)

theorem Mid.grown {c : Option Nat} (h : Mid w nb ev own lf pb fo fl fp wr) (hg : wr.grownBy w' c) (hc : ∀ b, c = some b → w.heap.size + 8 + 3 * nb ≤ b) : Mid w nb ev own lf pb fo fl fp w' :=
  h.fr (S := fun b => w.heap.size + 8 + 3 * nb ≤ b) ((Fr.refl _ wr).grown hg (fun b hb => .inl (hc b hb))) (fun b hb => by unfold InMid InCore at hb; omega) (fun b hb => by omega)

theorem Mid.owner (h : Mid w nb ev own lf pb fo fl fp wr) {k : Nat} (hk : k < 3) : wr.cell? ⟨w.heap.size + 5 + 3 * nb, k, none⟩ = some (fo k) ∧ wr.frozen? ⟨w.heap.size + 5 + 3 * nb, k, none⟩ = false :=
  ⟨by rw [cell_of_row _ _ k _ 70 (0, 0) h.ao]; exact arr3_get fo hk, frozen_of_row _ _ k _ 70 h.ao⟩
theorem Mid.left (h : Mid w nb ev own lf pb fo fl fp wr) {k : Nat} (hk : k < 3) : wr.cell? ⟨w.heap.size + 6 + 3 * nb, k, none⟩ = some (fl k) ∧ wr.frozen? ⟨w.heap.size + 6 + 3 * nb, k, none⟩ = false :=
  ⟨by rw [cell_of_row _ _ k _ 71 (0, 0) h.al]; exact arr3_get fl hk, frozen_of_row _ _ k _ 71 h.al⟩
theorem Mid.placed (h : Mid w nb ev own lf pb fo fl fp wr) {k : Nat} (hk : k < 3) : wr.cell? ⟨w.heap.size + 7 + 3 * nb, k, none⟩ = some (fp k) ∧ wr.frozen? ⟨w.heap.size + 7 + 3 * nb, k, none⟩ = false :=
  ⟨by rw [cell_of_row _ _ k _ 72 (0, 0) h.ap]; exact arr3_get fp hk, frozen_of_row _ _ k _ 72 h.ap⟩

theorem core_setCell {B : Nat} {evs : Value} {ow pl : Nat → Nat → Option Value} {x : World} (h : Core B nb evs own ow pl x) {p : Addr} (hp : ¬ InCore B nb p.block) (v : Value) : Core B nb evs own ow pl (x.setCell p v) :=
  h.same fun b hb => Below.heap_setCell _ _ _ _ (by rintro rfl; exact hp hb)

theorem Mid.setOwner (h : Mid w nb ev own lf pb fo fl fp wr) {k : Nat} (hk : k < 3) (v : Value) : Mid w nb ev own lf pb (upd fo k v) fl fp (wr.setCell ⟨w.heap.size + 5 + 3 * nb, k, none⟩ v) where
  core := core_setCell h.core (by show ¬ InCore _ _ (w.heap.size + 5 + 3 * nb); unfold InCore; omega) v
  lt := h.lt
  bs i hi := cell_of_same (Below.heap_setCell _ _ _ _ (by show w.heap.size + 4 ≠ w.heap.size + 5 + 3 * nb; omega)) (h.bs i hi)
  ao := by rw [← arr3_set fo hk]; exact heap_setCell_same _ _ k _ 70 v h.ao
  al := by rw [Below.heap_setCell _ _ _ _ (by show _ ≠ w.heap.size + 5 + 3 * nb; omega)]; exact h.al
  ap := by rw [Below.heap_setCell _ _ _ _ (by show _ ≠ w.heap.size + 5 + 3 * nb; omega)]; exact h.ap
  below := h.below.setCell (by show w.heap.size ≤ w.heap.size + 5 + 3 * nb; omega) v
theorem Mid.setLeft (h : Mid w nb ev own lf pb fo fl fp wr) {k : Nat} (hk : k < 3) (v : Value) : Mid w nb ev own lf pb fo (upd fl k v) fp (wr.setCell ⟨w.heap.size + 6 + 3 * nb, k, none⟩ v) where
  core := core_setCell h.core (by show ¬ InCore _ _ (w.heap.size + 6 + 3 * nb); unfold InCore; omega) v
  lt := h.lt
  bs i hi := cell_of_same (Below.heap_setCell _ _ _ _ (by show w.heap.size + 4 ≠ w.heap.size + 6 + 3 * nb; omega)) (h.bs i hi)
  ao := by rw [Below.heap_setCell _ _ _ _ (by show _ ≠ w.heap.size + 6 + 3 * nb; omega)]; exact h.ao
  al := by rw [← arr3_set fl hk]; exact heap_setCell_same _ _ k _ 71 v h.al
  ap := by rw [Below.heap_setCell _ _ _ _ (by show _ ≠ w.heap.size + 6 + 3 * nb; omega)]; exact h.ap
  below := h.below.setCell (by show w.heap.size ≤ w.heap.size + 6 + 3 * nb; omega) v
theorem Mid.setPlaced (h : Mid w nb ev own lf pb fo fl fp wr) {k : Nat} (hk : k < 3) (v : Value) : Mid w nb ev own lf pb fo fl (upd fp k v) (wr.setCell ⟨w.heap.size + 7 + 3 * nb, k, none⟩ v) where
  core := core_setCell h.core (by show ¬ InCore _ _ (w.heap.size + 7 + 3 * nb); unfold InCore; omega) v
  lt := h.lt
  bs i hi := cell_of_same (Below.heap_setCell _ _ _ _ (by show w.heap.size + 4 ≠ w.heap.size + 7 + 3 * nb; omega)) (h.bs i hi)
  ao := by rw [Below.heap_setCell _ _ _ _ (by show _ ≠ w.heap.size + 7 + 3 * nb; omega)]; exact h.ao
  al := by rw [Below.heap_setCell _ _ _ _ (by show _ ≠ w.heap.size + 7 + 3 * nb; omega)]; exact h.al
  ap := by rw [← arr3_set fp hk]; exact heap_setCell_same _ _ k _ 72 v h.ap
  below := h.below.setCell (by show w.heap.size ≤ w.heap.size + 7 + 3 * nb; omega) v
end

theorem owOf_none (lf : Nat → ByteArray) : owOf (fun _ => none) lf = fun _ _ => none := by funext i k; simp [owOf]
theorem plOf_none (pb : Nat → Bool) : plOf (fun _ => none) pb = fun _ _ => none := by funext i k; simp [plOf]

/-- The three arrays are laid. -/
theorem mid_start {w wr : World} {nb : Nat} {ev : Bool} (h : Half w nb nb ev wr) :
    Mid w nb ev (fun _ => none) (fun _ => ⟨#[]⟩) (fun _ => false) (fun _ => .int .i64 0) (fun _ => .string ⟨#[]⟩) (fun _ => .bool false)
      (((wr.alloc (.cells (arr3 fun _ => .int .i64 0) 70)).alloc (.cells (arr3 fun _ => .string ⟨#[]⟩) 71)).alloc (.cells (arr3 fun _ => .bool false) 72)) := by
  have hsz := h.size
  have e1 : (wr.alloc (.cells (arr3 fun _ => .int .i64 0) 70)).heap.size = w.heap.size + 6 + 3 * nb := by simp; omega
  have e2 : ((wr.alloc (.cells (arr3 fun _ => .int .i64 0) 70)).alloc (.cells (arr3 fun _ => .string ⟨#[]⟩) 71)).heap.size = w.heap.size + 7 + 3 * nb := by simp; omega
  refine ⟨?_, ?_, ?_, ?_, ?_, ?_, ?_⟩
  · rw [owOf_none, plOf_none]; exact ((h.core.alloc _).alloc _).alloc _
  · intro k i _ hk; cases hk
  · intro i hi
    obtain ⟨cur, hc, _, hci⟩ := h.bs
    have hb : (((wr.alloc (.cells (arr3 fun _ => .int .i64 0) 70)).alloc (.cells (arr3 fun _ => .string ⟨#[]⟩) 71)).alloc (.cells (arr3 fun _ => .bool false) 72)).heap[w.heap.size + 4]? = some (.cells cur 58 (0, 0)) := by
      rw [Below.heap_alloc _ _ _ (by omega), Below.heap_alloc _ _ _ (by omega), Below.heap_alloc _ _ _ (by omega)]; exact hc
    rw [cell_of_row _ _ i cur 58 (0, 0) hb]
    exact hci i hi
  · rw [Below.heap_alloc _ _ _ (by omega), Below.heap_alloc _ _ _ (by omega), ← hsz]; exact heap_alloc_new _ _
  · rw [Below.heap_alloc _ _ _ (by omega), ← e1]; exact heap_alloc_new _ _
  · rw [← e2]; exact heap_alloc_new _ _
  · exact ((h.below.alloc (by omega) _).alloc (by omega) _).alloc (by omega) _

/-! ### The two logs: what the law wants (n calls, ys), and what Events heard (m calls, zs) -/
structure Logs (w : World) (nb : Nat) (ev : Bool) (n : Nat) (ys : List Value) (m : Nat) (zs : List Value) (vw : Value) (wr : World) : Prop where
  want : wr.ownsRow (w.heap.size + 8 + 3 * nb) 81 5 vw n ys
  deaf : ev = false → wr.cell? ⟨w.heap.size + 3, 0, none⟩ = some (.slice none 0 0)
  heard : ev = true → ∃ vl, wr.cell? ⟨w.heap.size + 3, 0, none⟩ = some vl ∧ wr.frozen? ⟨w.heap.size + 3, 0, none⟩ = false ∧ wr.ownsRow (w.heap.size + 8 + 3 * nb) 81 5 vl m zs ∧ ∀ g, vl.ownBlock = some g → vw.ownBlock ≠ some g

theorem owns_lt {w : World} {base : Nat} {e : TypeId} {size : Nat} {v : Value} {n : Nat} {xs : List Value} (h : w.ownsRow base e size v n xs) {b : Nat} (hb : v.ownBlock = some b) : b < w.heap.size := by
  rcases h.2 with ⟨rfl, _⟩ | ⟨g, c, cur, rfl, _, hg, _⟩
  · cases hb
  · simp [Value.ownBlock] at hb
    subst hb
    exact (Array.getElem?_eq_some_iff.1 hg).1

theorem owns_same {w w' : World} {base : Nat} {e : TypeId} {size : Nat} {v : Value} {n : Nat} {xs : List Value} (h : w.ownsRow base e size v n xs) (hs : ∀ b, v.ownBlock = some b → w'.heap[b]? = w.heap[b]?) : w'.ownsRow base e size v n xs := by
  obtain ⟨h1, h2⟩ := h
  refine ⟨h1, ?_⟩
  rcases h2 with h2 | ⟨g, c, cur, rfl, hg, hh, r⟩
  · exact .inl h2
  · exact .inr ⟨g, c, cur, rfl, hg, (hs g rfl).trans hh, r⟩

section
variable {w wr w' : World} {nb n m : Nat} {ev : Bool} {ys zs : List Value} {vw : Value}

theorem Logs.same (h : Logs w nb ev n ys m zs vw wr) (h3 : w'.heap[w.heap.size + 3]? = wr.heap[w.heap.size + 3]?) (hs : ∀ b, w.heap.size + 8 + 3 * nb ≤ b → b < wr.heap.size → w'.heap[b]? = wr.heap[b]?) : Logs w nb ev n ys m zs vw w' where
  want := owns_same h.want fun b hb => hs b (own_ge h.want hb) (owns_lt h.want hb)
  deaf he := cell_of_same h3 (h.deaf he)
  heard he := by
    obtain ⟨vl, g1, g2, g3, g4⟩ := h.heard he
    exact ⟨vl, cell_of_same h3 g1, (World.frozen?_of_block (w := wr) h3).trans g2, owns_same g3 fun b hb => hs b (own_ge g3 hb) (owns_lt g3 hb), g4⟩

theorem Logs.alloc (h : Logs w nb ev n ys m zs vw wr) (hlt : w.heap.size + 3 < wr.heap.size) (o : Obj) : Logs w nb ev n ys m zs vw (wr.alloc o) :=
  h.same (Below.heap_alloc _ _ _ hlt) (fun _ _ hb => Below.heap_alloc _ _ _ hb)
theorem Logs.drewN (h : Logs w nb ev n ys m zs vw wr) (k : Nat) : Logs w nb ev n ys m zs vw (wr.drewN k) := h.same rfl (fun _ _ _ => rfl)
/-- A store into one of the three arrays. -/
theorem Logs.setCell (h : Logs w nb ev n ys m zs vw wr) {p : Addr} (hp : p.block < w.heap.size + 8 + 3 * nb) (hp3 : p.block ≠ w.heap.size + 3) (v : Value) : Logs w nb ev n ys m zs vw (wr.setCell p v) :=
  h.same (Below.heap_setCell _ _ _ _ (by omega)) (fun b hb _ => Below.heap_setCell _ _ _ _ (by omega))
/-- Behind the append to the law's own log. -/
theorem Logs.append {g cap : Nat} {cs : List Value} (h : Logs w nb ev n ys m zs vw wr) (hlt : w.heap.size + 8 + 3 * nb ≤ wr.heap.size) (hg : wr.grownBy w' vw.ownBlock) (ho : w'.ownsRow (w.heap.size + 8 + 3 * nb) 81 5 (.slice (some ⟨g, 0, none⟩) (n + 1) cap) (n + 1) (ys ++ cs))
    (hat : vw.ownBlock = some g ∨ g = wr.heap.size) : Logs w nb ev (n + 1) (ys ++ cs) m zs (.slice (some ⟨g, 0, none⟩) (n + 1) cap) w' := by
  have h3 : w'.heap[w.heap.size + 3]? = wr.heap[w.heap.size + 3]? := hg.block _ (by omega) (fun e => by have := own_ge h.want e.symm; omega)
  refine ⟨ho, fun he => cell_of_same h3 (h.deaf he), fun he => ?_⟩
  obtain ⟨vl, g1, g2, g3, g4⟩ := h.heard he
  refine ⟨vl, cell_of_same h3 g1, (World.frozen?_of_block (w := wr) h3).trans g2, owns_same g3 fun b hb => hg.block b (owns_lt g3 hb) (fun e => g4 b hb e.symm), fun g' hg' e => ?_⟩
  have e1 : g = g' := by simpa [Value.ownBlock] using e
  subst e1
  rcases hat with hat | hat
  · exact g4 g hg' hat
  · have := owns_lt g3 hg'
    omega

/-- Behind an assign without Events. -/
theorem Logs.assignNil {S : Nat → Prop} (h : Logs w nb false n ys m zs vw wr) (hf : Fr S wr w') (hlt : w.heap.size + 8 + 3 * nb ≤ wr.heap.size) (hs : ∀ b, S b → b ≠ w.heap.size + 3 ∧ b < w.heap.size + 8 + 3 * nb) (m' : Nat) (zs' : List Value) : Logs w nb false n ys m' zs' vw w' where
  want := owns_same h.want fun b hb => hf.block b (owns_lt h.want hb) (fun x => by have := hs b x; have := own_ge h.want hb; omega)
  deaf he := cell_of_same (hf.block (w.heap.size + 3) (by omega) (fun x => (hs _ x).1 rfl)) (h.deaf he)
  heard he := by cases he

theorem logs_start (h : wr.heap[w.heap.size + 3]? = some (.cells #[.slice none 0 0] 56 (0, 0))) : Logs w nb ev 0 [] 0 [] (.slice none 0 0) wr where
  want := World.ownsRow_nil _ _ _ _
  deaf _ := by rw [cell_of_row _ _ 0 _ 56 (0, 0) h]; rfl
  heard _ := ⟨.slice none 0 0, by rw [cell_of_row _ _ 0 _ 56 (0, 0) h]; rfl, frozen_of_row _ _ 0 _ 56 h, World.ownsRow_nil _ _ _ _, fun g hg => by cases hg⟩
end

def ownI (o : Option Nat) : Int := match o with | none => -1 | some i => i

theorem Mid.congrO {w wr : World} {nb : Nat} {ev : Bool} {own : Nat → Option Nat} {lf : Nat → ByteArray} {pb : Nat → Bool} {fo fl fp fo' : Nat → Value} (h : Mid w nb ev own lf pb fo fl fp wr) (hf : ∀ k, k < 3 → fo k = fo' k) : Mid w nb ev own lf pb fo' fl fp wr where
  core := h.core
  lt := h.lt
  bs := h.bs
  ao := by
    have e : arr3 fo = arr3 fo' := by simp [arr3, hf 0, hf 1, hf 2]
    rw [← e]; exact h.ao
  al := h.al
  ap := h.ap
  below := h.below

/-- The owners' array while it is filled. -/
def fill (k j : Nat) : Value := if j < k then .int .i64 (-1) else .int .i64 0

theorem fill_step (k j : Nat) : upd (fill k) k (.int .i64 (-1)) j = fill (k + 1) j := by
  by_cases e : j = k
  · subst e; simp [upd_same, fill]
  · rw [upd_other _ e]
    unfold fill
    by_cases h : j < k
    · simp [h, show j < k + 1 by omega]
    · simp [h, show ¬ j < k + 1 by omega]


/-- The script, as it came in. -/
def Steps (w : World) (a : Option Addr) (len : Nat) : Prop :=
  ∀ i, i < len → ∃ b off x y z, a = some ⟨b, off, none⟩ ∧ w.cell? ⟨b, off + i * 3, none⟩ = some (.int .u8 x) ∧ w.cell? ⟨b, off + i * 3 + 1, none⟩ = some (.int .u8 y) ∧ w.cell? ⟨b, off + i * 3 + 2, none⟩ = some (.int .u8 z) ∧ 0 ≤ x ∧ x ≤ 255 ∧ 0 ≤ y ∧ y ≤ 255 ∧ 0 ≤ z ∧ z ≤ 255

theorem Steps.at {w wr : World} {a : Option Addr} {len i : Nat} (h : Steps w a len) (hb : Below w.heap.size w wr) (hi : i < len) :
    ∃ b off x y z, a = some ⟨b, off, none⟩ ∧ wr.cell? ⟨b, off + i * 3, none⟩ = some (.int .u8 x) ∧ wr.cell? ⟨b, off + i * 3 + 1, none⟩ = some (.int .u8 y) ∧ wr.cell? ⟨b, off + i * 3 + 2, none⟩ = some (.int .u8 z) ∧ 0 ≤ x ∧ x ≤ 255 ∧ 0 ≤ y ∧ y ≤ 255 ∧ 0 ≤ z ∧ z ≤ 255 := by
  obtain ⟨b, off, x, y, z, e, c0, c1, c2, r⟩ := h i hi
  exact ⟨b, off, x, y, z, e, (hb.cell (World.block_lt_of_cell? _ _ c0)).trans c0, (hb.cell (World.block_lt_of_cell? _ _ c1)).trans c1, (hb.cell (World.block_lt_of_cell? _ _ c2)).trans c2, r⟩

/-! ### Behind an assign -/
theorem mid_assign {w W2 w3 : World} {nb : Nat} {ev : Bool} {own own' : Nat → Option Nat} {lf lf' : Nat → ByteArray} {pb pb' : Nat → Bool} {fo fl fp : Nat → Value} {S : Nat → Prop} (M : Mid w nb ev own lf pb fo fl fp W2)
    (C : Core w.heap.size nb (evOf w.heap.size ev) own' (owOf own' lf') (plOf own' pb') w3) (hlt : ∀ k i, k < 3 → own' k = some i → i < nb) (F : Fr S W2 w3) (hs : ∀ b, S b → (w.heap.size ≤ b ∧ b < w.heap.size + 4) ∨ (w.heap.size + 5 ≤ b ∧ b < w.heap.size + 5 + 3 * nb) ∨ w.heap.size + 8 + 3 * nb ≤ b) :
    Mid w nb ev own' lf' pb' fo fl fp w3 where
  core := C
  lt := hlt
  bs i hi := F.cell (M.bs i hi) (fun x => by have := hs _ x; dsimp only at this; omega)
  ao := (F.block _ (by have := M.size; omega) (fun x => by have := hs _ x; omega)).trans M.ao
  al := (F.block _ (by have := M.size; omega) (fun x => by have := hs _ x; omega)).trans M.al
  ap := (F.block _ (by have := M.size; omega) (fun x => by have := hs _ x; omega)).trans M.ap
  below := M.below.trans ⟨F.os, F.tape, F.output, F.size, fun b hb => F.block b (by have := M.size; omega) (fun x => by have := hs _ x; omega)⟩

theorem lt_upd {nb k j : Nat} {own : Nat → Option Nat} (h : ∀ k i, k < 3 → own k = some i → i < nb) (hj : j < nb) : ∀ k' i, k' < 3 → upd own k (some j) k' = some i → i < nb := by
  intro k' i hk' h'
  by_cases e : k' = k
  · subst e; rw [upd_same] at h'; cases h'; exact hj
  · rw [upd_other _ e] at h'; exact h k' i hk' h'

theorem upd_comp {α β : Type} (g : α → β) (f : Nat → α) (q : Nat) (v : α) : upd (fun k => g (f k)) q (g v) = fun k => g (upd f q v k) := by
  funext k
  by_cases e : k = q
  · subst e; simp [upd_same]
  · simp [upd_other _ e]

/-- The round's world, ahead of the append to the law's own log. -/
def round3 (w : World) (nb q j : Nat) (F : ByteArray) (R : Bool) (W : World) : World :=
  ((W.setCell ⟨w.heap.size + 5 + 3 * nb, q, none⟩ (.int .i64 j)).setCell ⟨w.heap.size + 6 + 3 * nb, q, none⟩ (.string F)).setCell ⟨w.heap.size + 7 + 3 * nb, q, none⟩ (.bool R)

theorem mid_round {w W : World} {nb q j : Nat} {ev : Bool} {own : Nat → Option Nat} {lf : Nat → ByteArray} {pb : Nat → Bool} {F : ByteArray} {R : Bool} (hq : q < 3)
    (M : Mid w nb ev (upd own q (some j)) (upd lf q F) (upd pb q R) (fun k => .int .i64 (ownI (own k))) (fun k => .string (lf k)) (fun k => .bool (pb k)) W) :
    Mid w nb ev (upd own q (some j)) (upd lf q F) (upd pb q R) (fun k => .int .i64 (ownI (upd own q (some j) k))) (fun k => .string (upd lf q F k)) (fun k => .bool (upd pb q R k)) (round3 w nb q j F R W) := by
  have h := ((M.setOwner hq (.int .i64 j)).setLeft hq (.string F)).setPlaced hq (.bool R)
  have e1 := upd_comp (fun o => Value.int .i64 (ownI o)) own q (some j)
  have e2 := upd_comp Value.string lf q F
  have e3 := upd_comp Value.bool pb q R
  rw [← e1, ← e2, ← e3]
  exact h

theorem logs_round {w W : World} {nb q j n m : Nat} {ev : Bool} {F : ByteArray} {R : Bool} {ys zs : List Value} {vw : Value} (h : Logs w nb ev n ys m zs vw W) : Logs w nb ev n ys m zs vw (round3 w nb q j F R W) :=
  ((h.setCell (by show w.heap.size + 5 + 3 * nb < _; omega) (by show w.heap.size + 5 + 3 * nb ≠ _; omega) _).setCell (by show w.heap.size + 6 + 3 * nb < _; omega) (by show w.heap.size + 6 + 3 * nb ≠ _; omega) _).setCell (by show w.heap.size + 7 + 3 * nb < _; omega) (by show w.heap.size + 7 + 3 * nb ≠ _; omega) _

/-- Behind an assign with Events: the log has grown by one. -/
theorem logs_assign_ev {w W2 w3 : World} {nb n m : Nat} {ys zs cs : List Value} {vw vl : Value} (h : Logs w nb true n ys m zs vw W2) (hvl : ∀ g, vl.ownBlock = some g → vw.ownBlock ≠ some g)
    (hL : Logged w.heap.size nb (w.heap.size + 8 + 3 * nb) m vl (zs ++ cs) W2 w3) : Logs w nb true n ys (m + 1) (zs ++ cs) vw w3 := by
  obtain ⟨g, cap, h1, h2, h3, h4, h5⟩ := hL
  refine ⟨owns_same h.want fun b hb => h5.block b (owns_lt h.want hb) ?_, (fun he => by cases he), fun _ => ⟨_, h1, h2, h3, fun g' hg' e => ?_⟩⟩
  · have hb1 := own_ge h.want hb
    rintro (x | x | x)
    · unfold Turned at x; omega
    · omega
    · exact hvl b x hb
  · have e1 : g = g' := by simpa [Value.ownBlock] using hg'
    subst e1
    rcases h4 with h4 | h4
    · exact hvl g h4 e
    · have := owns_lt h.want e
      omega

end Go.Proofs.YbulkchjmFmt
