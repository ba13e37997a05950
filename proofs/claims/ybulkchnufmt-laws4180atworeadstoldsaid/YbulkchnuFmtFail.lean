/-
  Decoder.Failf("it ends early"), on a decoder of kind "metadata" that holds no error.
-/
import Derived.Test.YbulkchnuFmtBase
namespace Go.Proofs.YbulkchnuFmt
open Go.RowKit Go.Extern.Stop Go.Stop Go.Extern

/-- Nothing but new memory and the decoder's cell 'err' has turned. -/
structure FailB (F : Interp) (g : GV) (B bd : Nat) (w w' : World) : Prop where
  fr : Fr (· = bd) w w'
  cells : ∀ i, i ≠ 4 → w'.cell? ⟨bd, i, none⟩ = w.cell? ⟨bd, i, none⟩
  froz : ∀ i, w'.frozen? ⟨bd, i, none⟩ = w.frozen? ⟨bd, i, none⟩
  glob : Glob g B w'
  ans : F.answers w'.tape

abbrev FailC (F : Interp) (g : GV) (B bd : Nat) (w w' : World) : Prop := w'.cell? ⟨0, 0, none⟩ = some (.iface 48 (.pointer (some g.aM))) ∧ w'.cell? ⟨bd, 1, none⟩ = some (.string metaS) ∧ FailB F g B bd w w'

theorem Fr.below' {S : Nat → Prop} {w w' : World} (h : Fr S w w') {B : Nat} (hs : ∀ k, k < B → ¬ S k) (hb : B ≤ w.heap.size) : Below B w w' :=
  ⟨h.os, h.tape, h.output, h.size, fun k hk => h.block k (Nat.lt_of_lt_of_le hk hb) (hs k hk)⟩

variable {F : Interp} {g : GV} {B bd : Nat} {w w' w2 : World}

theorem FailC.below (h : FailC F g B bd w w') (b : Below w'.heap.size w' w2) (hB : B ≤ w'.heap.size) : FailC F g B bd w w2 := by
  have hl : bd < w'.heap.size := World.block_lt_of_cell? _ _ h.2.1
  have f : Fr (· = bd) w' w2 := Fr.ofBelow b
  have e : ∀ i, w2.cell? ⟨bd, i, none⟩ = w'.cell? ⟨bd, i, none⟩ := fun i => World.cell?_of_block (b.block bd hl)
  have z : ∀ i, w2.frozen? ⟨bd, i, none⟩ = w'.frozen? ⟨bd, i, none⟩ := fun i => World.frozen?_of_block (b.block bd hl)
  exact ⟨Below.keepCell b h.1 (World.block_lt_of_cell? _ _ h.1), Below.keepCell b h.2.1 hl, h.2.2.fr.trans f, fun i hi => (e i).trans (h.2.2.cells i hi), fun i => (z i).trans (h.2.2.froz i), h.2.2.glob.below (b.mono hB), by rw [b.tape]; exact h.2.2.ans⟩
theorem FailC.store (h : FailC F g B bd w w') (hb : B ≤ bd) (hB : B ≤ w'.heap.size) (v : Value) : FailC F g B bd w (w'.setCell ⟨bd, 4, none⟩ v) := by
  have bl : Below B w' (w'.setCell ⟨bd, 4, none⟩ v) := ((Fr.refl (· = bd) w').setCell (p := ⟨bd, 4, none⟩) (.inl rfl) v).below' (fun k hk => by omega) hB
  refine ⟨?_, ?_, h.2.2.fr.setCell (.inl rfl) v, fun i hi => ?_, fun i => ?_, h.2.2.glob.below bl, h.2.2.ans⟩
  · rw [World.cell?_setCell_other _ _ _ _ (by simp)]; exact h.1
  · rw [World.cell?_setCell_other _ _ _ _ (by simp)]; exact h.2.1
  · rw [World.cell?_setCell_other _ _ _ _ (by intro e; cases e; exact hi rfl)]; exact h.2.2.cells i hi
  · simpa using h.2.2.froz i
theorem FailC.drew (h : FailC F g B bd w w') : FailC F g B bd w w'.drew := ⟨h.1, h.2.1, h.2.2.fr.drew, h.2.2.cells, h.2.2.froz, h.2.2.glob.below (Below.refl B w').drew, h.2.2.ans⟩
theorem FailC.alloc (h : FailC F g B bd w w') (hB : B ≤ w'.heap.size) (o : Obj) : FailC F g B bd w (w'.alloc o) := h.below ((Below.refl _ w').alloc (Nat.le_refl _) o) hB

theorem noun_step (h : FailC F g B bd w w') (hB : B ≤ w.heap.size) : Calls Ybaf.prog 16 #[.string metaS] w' fun e w2 => ∃ x : ByteArray, e = .returned (.string x) ∧ FailC F g B bd w w2 ∧ w2.cell? ⟨bd, 4, none⟩ = w'.cell? ⟨bd, 4, none⟩ := by
  refine (noun_meta w' h.2.2.glob).mono ?_
  rintro e w2 ⟨x, rfl, b⟩
  exact ⟨x, rfl, h.below b (Nat.le_trans hB h.2.2.fr.size), World.cell?_of_block (b.block bd (World.block_lt_of_cell? _ _ h.2.1))⟩

theorem fail_cell {w1 : World} {p : Addr} {v : Value} (h : w1.cell? p = some v) (o o2 : Obj) : ((w1.alloc o).drew.alloc o2).drew.cell? p = some v := by
  have hl := World.block_lt_of_cell? _ _ h
  show ((w1.alloc o).drew.alloc o2).cell? p = some v
  rw [World.cell?_alloc_lt _ _ _ (by simp; omega)]
  show (w1.alloc o).cell? p = some v
  rw [World.cell?_alloc_lt _ _ _ hl]
  exact h

theorem failf_any (w : World) (G : Glob g B w) (hF : F.answers w.tape) (hB : B ≤ w.heap.size) (hb : B ≤ bd) (k1 : w.cell? ⟨bd, 1, none⟩ = some (.string metaS)) (k4 : w.cell? ⟨bd, 4, none⟩ = some .nilIface) (z4 : w.frozen? ⟨bd, 4, none⟩ = false) :
    Calls Ybaf.prog 13 #[.pointer (some ⟨bd, 0, none⟩), .string endsS, .slice none 0 0] w fun e w' => e = .returned (.tuple #[]) ∧
      FailC F g B bd w w' ∧ ∃ nb, w'.cell? ⟨bd, 4, none⟩ = some (.iface 70 (.pointer (some ⟨nb, 0, none⟩))) ∧ w'.cell? ⟨nb, 1, none⟩ = some (.iface 48 (.pointer (some g.aM))) ∧ w.heap.size ≤ nb := by
  have hC0 : FailC F g B bd w w.drew := FailC.drew ⟨G.m, k1, Fr.refl _ w, fun _ _ => rfl, fun _ => rfl, G, hF⟩
  go_enter Ybaf.func13, Ybaf.ntmps13
  go_wp2_with fail
  go_region_held3 (fun w' => w'.cell? ⟨0, 0, none⟩ = some (.iface 48 (.pointer (some g.aM))) ∧ w'.cell? ⟨bd, 1, none⟩ = some (.string metaS) ∧ FailB F g B bd w w') (first | assumption | exact hS2 | exact hS3 _ | exact hS5 _ _ | exact hS6 _ _ _ | exact hS7 _ _ _ | exact hS8 _ _ _)
    (first
      | (go_at_call 16; refine (noun_step hC0 hB).mono ?_; rintro e w1 ⟨x, rfl, hS1, hk1⟩; have ht1 := answers_open hS1.2.2.ans; have hs1 : B ≤ w1.heap.size := Nat.le_trans hB hS1.2.2.fr.size; have hS2 := hS1.drew; have hS3 : ∀ o, FailC F g B bd w (w1.alloc o).drew := (fun o => (hS1.alloc hs1 o).drew); have hS5 : ∀ o o2, FailC F g B bd w ((w1.alloc o).drew.alloc o2).drew := (fun o o2 => ((hS3 o).alloc (by simp; omega) o2).drew); have hS6 : ∀ o o2 v, FailC F g B bd w (((w1.alloc o).drew.alloc o2).drew.setCell ⟨bd, 4, none⟩ v) := (fun o o2 v => (hS5 o o2).store hb (by simp; omega) v); have hk4 : ∀ o o2, ((w1.alloc o).drew.alloc o2).drew.cell? ⟨bd, 4, none⟩ = some .nilIface := (fun o o2 => fail_cell (hk1.trans k4) o o2); have hz4 : ∀ o o2, ((w1.alloc o).drew.alloc o2).drew.frozen? ⟨bd, 4, none⟩ = false := (fun o o2 => ((hS5 o o2).2.2.froz 4).trans z4); have hk4' : ∀ o o2, ((w1.alloc o).alloc o2).cell? ⟨bd, 4, none⟩ = some .nilIface := hk4; have hz4' : ∀ o o2, ((w1.alloc o).alloc o2).frozen? ⟨bd, 4, none⟩ = false := hz4; have hS7 : ∀ o o2 v, FailC F g B bd w (((w1.alloc o).alloc o2).drew.drew.setCell ⟨bd, 4, none⟩ v) := hS6; have hS8 : ∀ o o2 v, FailC F g B bd w ((((w1.alloc o).alloc o2).setCell ⟨bd, 4, none⟩ v).drew.drew) := hS6)
      | (go_at_call 14; refine (errorf_any F w1.heap.size g.aM x (FmtStop.textOf (F "fmt.Sprintf" [[105, 116, 32, 101, 110, 100, 115, 32, 101, 97, 114, 108, 121]] 0)) g.sM _ ?_ ?_ ?_ ?_ ?_).mono ?_; exact (hS3 _).2.2.ans; (simp [go_sem]); (simp [go_sem]); (simp [go_sem]); exact (hS3 _).2.2.glob.ms; rintro e w4 ⟨rfl, y, rfl⟩))
  have hbd : bd < w1.heap.size := World.block_lt_of_cell? _ _ hS1.2.1
  have hsz := hS1.2.2.fr.size
  go_wp2
  go_end0
  refine ⟨rfl, hS8 _ _ _, w1.heap.size + 1, ?_, ?_, by omega⟩
  · exact World.cell?_setCell_same _ _ _ (hk4' _ _)
  · show (World.setCell _ _ _).cell? _ = _
    rw [World.cell?_setCell_other _ _ _ _ (by simp <;> omega)]
    simp [go_sem]
end Go.Proofs.YbulkchnuFmt
