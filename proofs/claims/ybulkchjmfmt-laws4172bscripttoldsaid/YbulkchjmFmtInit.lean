/-
  LawS4172BScript: what stands in memory while the service is set up: plain facts for the walk.
-/
import Derived.Test.YbulkchjmFmtAssignEv
import Derived.Deep.OwnRows
namespace Go.Proofs.YbulkchjmFmt
open Go.RowKit Go.Maps Go.WideMaps

theorem info58 : (Ybaf.prog.info? 58).map (fun i => (i.zero, i.size, i.bytes)) = some (some (.pointer none), 1, 8) := by kernel_rfl

def evOf (B : Nat) (ev : Bool) : Value := if ev then .iface 53 (.pointer (some ⟨B + 3, 0, none⟩)) else .nilIface

/-- The service's cells as they are made. -/
def svc (B : Nat) (e : Value) : Array Value := #[.slice none 0 0, .int .i64 0, .float .f64 0, .float .f64 0, .float .f64 0, .float .f64 0, .float .f64 0, .float .f64 0, .float .f64 0, .float .f64 0, .float .f64 0, .float .f64 0, .float .f64 0, .float .f64 0, .int .i64 0, .bool false, .float .f64 0, .int .i64 0, .int .i64 0, .int .i64 0, .int .i64 0, .int .i64 0, .int .i64 0, .int .i64 0, .nilFunc, e, .map none, .int .i32 0, .int .u32 0, .pointer none, .map (some B), .pointer none, .map (some (B + 1)), .pointer none]

/-- What stands behind 'if withEvents'. -/
def Init (w : World) (ev : Bool) (wc : World) : Prop :=
  Core w.heap.size 0 (evOf w.heap.size ev) (fun _ => none) (fun _ _ => none) (fun _ _ => none) wc ∧ wc.heap.size = w.heap.size + 4 ∧ wc.heap[w.heap.size + 3]? = some (.cells #[.slice none 0 0] 56 (0, 0)) ∧ Below w.heap.size w wc

theorem init_of (w : World) (ev : Bool) : Init w ev ((((w.alloc (.map #[] 0)).alloc (.map #[] 0)).alloc (.cells (svc w.heap.size (evOf w.heap.size ev)) 52)).alloc (.cells #[.slice none 0 0] 56)) := by
  have g0 : ((((w.alloc (.map #[] 0)).alloc (.map #[] 0)).alloc (.cells (svc w.heap.size (evOf w.heap.size ev)) 52)).alloc (.cells #[.slice none 0 0] 56)).heap[w.heap.size]? = some (.map #[] 0) := by
    rw [Below.heap_alloc _ _ _ (by simp; omega), Below.heap_alloc _ _ _ (by simp; omega), Below.heap_alloc _ _ _ (by simp), heap_alloc_new]
  have g1 : ((((w.alloc (.map #[] 0)).alloc (.map #[] 0)).alloc (.cells (svc w.heap.size (evOf w.heap.size ev)) 52)).alloc (.cells #[.slice none 0 0] 56)).heap[w.heap.size + 1]? = some (.map #[] 0) := by
    rw [Below.heap_alloc _ _ _ (by simp), Below.heap_alloc _ _ _ (by simp)]
    have := heap_alloc_new (w.alloc (.map #[] 0)) (.map #[] 0)
    simpa using this
  have g2 : ((((w.alloc (.map #[] 0)).alloc (.map #[] 0)).alloc (.cells (svc w.heap.size (evOf w.heap.size ev)) 52)).alloc (.cells #[.slice none 0 0] 56)).heap[w.heap.size + 2]? = some (.cells (svc w.heap.size (evOf w.heap.size ev)) 52 (0, 0)) := by
    rw [Below.heap_alloc _ _ _ (by simp)]
    have := heap_alloc_new ((w.alloc (.map #[] 0)).alloc (.map #[] 0)) (.cells (svc w.heap.size (evOf w.heap.size ev)) 52)
    simpa using this
  have g3 : ((((w.alloc (.map #[] 0)).alloc (.map #[] 0)).alloc (.cells (svc w.heap.size (evOf w.heap.size ev)) 52)).alloc (.cells #[.slice none 0 0] 56)).heap[w.heap.size + 3]? = some (.cells #[.slice none 0 0] 56 (0, 0)) := by
    have := heap_alloc_new (((w.alloc (.map #[] 0)).alloc (.map #[] 0)).alloc (.cells (svc w.heap.size (evOf w.heap.size ev)) 52)) (.cells #[.slice none 0 0] 56)
    simpa using this
  refine ⟨⟨?_, ?_, ?_, ?_, ?_, ?_, ?_, ?_, ?_, ?_, ?_⟩, by simp, g3, ?_⟩
  · rw [cell_of_row _ _ 25 _ 52 (0, 0) g2]; rfl
  · rw [cell_of_row _ _ 30 _ 52 (0, 0) g2]; rfl
  · rw [cell_of_row _ _ 32 _ 52 (0, 0) g2]; rfl
  · rw [cell_of_row _ _ 33 _ 52 (0, 0) g2]; rfl
  · exact ⟨#[], 0, g0, by simp, by simp, by simp, by simp [cnt, one]⟩
  · exact ⟨#[], 0, g1, by simp, by simp, by simp, by simp [cnt, one]⟩
  · intro i hi; omega
  · intro i hi; omega
  · intro i hi; omega
  · intro i hi; omega
  · intro i hi; omega
  · exact ((((Below.refl _ _).alloc (Nat.le_refl _) _).alloc (by simp) _).alloc (by simp; omega) _).alloc (by simp; omega) _


/-- A broker's cells as they are made. -/
def brokerCells (B k : Nat) : Array Value := #[.string (nameS k), .pointer none, .int .u64 0, .int .i64 0, .pointer none, .slice none 0 0, .map (some (B + 5 + 3 * k)), .map (some (B + 6 + 3 * k)), .pointer none]

/-- k brokers stand. -/
structure Half (w : World) (nb k : Nat) (ev : Bool) (wr : World) : Prop where
  core : Core w.heap.size k (evOf w.heap.size ev) (fun _ => none) (fun _ _ => none) (fun _ _ => none) wr
  size : wr.heap.size = w.heap.size + 5 + 3 * k
  bs : ∃ cur : Array Value, wr.heap[w.heap.size + 4]? = some (.cells cur 58 (0, 0)) ∧ cur.size = nb ∧ ∀ i, i < k → cur[i]? = some (brk w.heap.size i)
  log : wr.heap[w.heap.size + 3]? = some (.cells #[.slice none 0 0] 56 (0, 0))
  below : Below w.heap.size w wr

theorem size_made (z : Value) (n : Nat) : (madeCells #[z] n).size = n := by simp [madeCells]

theorem half_start {w w4 : World} {nb : Nat} {ev : Bool} (h : Init w ev w4) : Half w nb 0 ev (w4.alloc (.cells (madeCells #[.pointer none] nb) 58)) where
  core := h.1.alloc _
  size := by simp [h.2.1]
  bs := ⟨_, by have := heap_alloc_new w4 (.cells (madeCells #[.pointer none] nb) 58); rw [h.2.1] at this; exact this, size_made _ _, fun i hi => absurd hi (by omega)⟩
  log := by rw [Below.heap_alloc _ _ _ (by rw [h.2.1]; omega)]; exact h.2.2.1
  below := h.2.2.2.alloc (by rw [h.2.1]; omega) _

/-- The world of a round, ahead of 's.brokers[b.name] = b'. -/
def round1 (w wr : World) (k : Nat) : World :=
  (((wr.alloc (.map #[] 0)).alloc (.map #[] 0)).alloc (.cells (brokerCells w.heap.size k) 69)).setCell ⟨w.heap.size + 4, k, none⟩ (brk w.heap.size k)

theorem half_slot {w wr : World} {nb k : Nat} {ev : Bool} (h : Half w nb k ev wr) (hk : k < nb) (o1 o2 o3 : Obj) :
    (∃ u, (((wr.alloc o1).alloc o2).alloc o3).cell? ⟨w.heap.size + 4, k, none⟩ = some u) ∧ (((wr.alloc o1).alloc o2).alloc o3).frozen? ⟨w.heap.size + 4, k, none⟩ = false := by
  obtain ⟨cur, hc, hs, _⟩ := h.bs
  have hlt : w.heap.size + 4 < wr.heap.size := by have := h.size; omega
  have hb : (((wr.alloc o1).alloc o2).alloc o3).heap[w.heap.size + 4]? = some (.cells cur 58 (0, 0)) := by
    rw [Below.heap_alloc _ _ _ (by simp; omega), Below.heap_alloc _ _ _ (by simp; omega), Below.heap_alloc _ _ _ hlt]; exact hc
  refine ⟨⟨cur[k]'(by omega), ?_⟩, frozen_of_row _ _ k cur 58 hb⟩
  rw [cell_of_row _ _ k cur 58 (0, 0) hb]
  exact Array.getElem?_eq_getElem (by omega)

theorem half_step {w wr : World} {nb k : Nat} {ev : Bool} (h : Half w nb k ev wr) (hk : k < nb) (hnb : nb ≤ 3) :
    (round1 w wr k).cell? ⟨w.heap.size + 2, 30, none⟩ = some (.map (some w.heap.size)) ∧ (round1 w wr k).cell? ⟨w.heap.size + 7 + 3 * k, 0, none⟩ = some (.string (nameS k)) ∧
      ∃ w5, (Instr.mapUpdate 24 (.map (some w.heap.size)) (.string (nameS k)) (.pointer (some ⟨w.heap.size + 7 + 3 * k, 0, none⟩))).run Ybaf.prog (round1 w wr k).drew = .ok () w5 ∧ Half w nb (k + 1) ev w5 := by
  have hsz := h.size
  have hlt : ∀ b, InCore w.heap.size k b → b < wr.heap.size := fun b hb => h.core.lt hb
  obtain ⟨cur, hc, hcs, hci⟩ := h.bs
  have e1 : (wr.alloc (.map #[] 0)).heap.size = w.heap.size + 6 + 3 * k := by simp; omega
  have e2 : ((wr.alloc (.map #[] 0)).alloc (.map #[] 0)).heap.size = w.heap.size + 7 + 3 * k := by simp; omega
  -- the blocks of the round's world
  have old : ∀ b, b < wr.heap.size → b ≠ w.heap.size + 4 → (round1 w wr k).heap[b]? = wr.heap[b]? := by
    intro b hb hne
    unfold round1
    rw [Below.heap_setCell _ _ _ _ hne, Below.heap_alloc _ _ _ (by omega), Below.heap_alloc _ _ _ (by omega), Below.heap_alloc _ _ _ hb]
  have n5 : (round1 w wr k).heap[w.heap.size + 5 + 3 * k]? = some (.map #[] 0) := by
    unfold round1
    rw [Below.heap_setCell _ _ _ _ (by show _ ≠ w.heap.size + 4; omega), Below.heap_alloc _ _ _ (by omega), Below.heap_alloc _ _ _ (by omega), ← hsz]
    exact heap_alloc_new _ _
  have n6 : (round1 w wr k).heap[w.heap.size + 6 + 3 * k]? = some (.map #[] 0) := by
    unfold round1
    rw [Below.heap_setCell _ _ _ _ (by show _ ≠ w.heap.size + 4; omega), Below.heap_alloc _ _ _ (by omega), ← e1]
    exact heap_alloc_new _ _
  have n7 : (round1 w wr k).heap[w.heap.size + 7 + 3 * k]? = some (.cells (brokerCells w.heap.size k) 69 (0, 0)) := by
    unfold round1
    rw [Below.heap_setCell _ _ _ _ (by show _ ≠ w.heap.size + 4; omega), ← e2]
    exact heap_alloc_new _ _
  have n4 : (round1 w wr k).heap[w.heap.size + 4]? = some (.cells (cur.setIfInBounds k (brk w.heap.size k)) 58 (0, 0)) := by
    unfold round1
    refine heap_setCell_same _ _ k cur 58 _ ?_
    rw [Below.heap_alloc _ _ _ (by omega), Below.heap_alloc _ _ _ (by omega), Below.heap_alloc _ _ _ (by omega)]
    exact hc
  have hsz1 : (round1 w wr k).heap.size = w.heap.size + 8 + 3 * k := by unfold round1; simp [World.setCell]; omega
  have C := h.core.same (w' := (round1 w wr k).drew) (fun b hb => old b (hlt b hb) (by unfold InCore at hb; omega))
  obtain ⟨w5, hrun, hm, hg, hsame⟩ := C.names.put nameFam Ybaf.underlying24 (show k < 3 by omega) (brk w.heap.size k)
  refine ⟨C.m, ?_, w5, hrun, ?_⟩
  · rw [cell_of_row _ _ 0 _ 69 (0, 0) n7]; rfl
  have hsz5 : w5.heap.size = w.heap.size + 5 + 3 * (k + 1) := by rw [hsame]; show (round1 w wr k).heap.size = _; omega
  have G : ∀ b, b < w.heap.size + 8 + 3 * k → b ≠ w.heap.size → w5.heap[b]? = (round1 w wr k).heap[b]? := fun b hb hne => hg.block b (by show b < (round1 w wr k).heap.size; omega) (by simpa using hne)
  have cellG : ∀ (b o : Nat) v, (round1 w wr k).cell? ⟨b, o, none⟩ = some v → b < w.heap.size + 8 + 3 * k → b ≠ w.heap.size → w5.cell? ⟨b, o, none⟩ = some v := fun b o v hv hb hne => cell_of_same (G b hb hne) hv
  refine ⟨⟨?_, ?_, ?_, ?_, ?_, ?_, ?_, ?_, ?_, ?_, ?_⟩, hsz5, ?_, ?_, ?_⟩
  · exact cellG _ _ _ C.e (by omega) (by omega)
  · exact cellG _ _ _ C.m (by omega) (by omega)
  · exact cellG _ _ _ C.o (by omega) (by omega)
  · exact cellG _ _ _ C.r (by omega) (by omega)
  · refine hm.congr fun i _ => ?_
    by_cases e : i = k
    · subst e; simp [upd_same]
    · rw [upd_other _ e]
      by_cases e' : i < k
      · simp [e', show i < k + 1 by omega]
      · simp [e', show ¬ i < k + 1 by omega]
  · exact C.owners.same (G _ (by omega) (by omega))
  · intro i hi
    by_cases e : i = k
    · subst e; exact cellG _ _ _ (by rw [cell_of_row _ _ 0 _ 69 (0, 0) n7]; rfl) (by omega) (by omega)
    · exact cellG _ _ _ (C.name i (by omega)) (by omega) (by omega)
  · intro i hi
    by_cases e : i = k
    · subst e; exact cellG _ _ _ (by rw [cell_of_row _ _ 6 _ 69 (0, 0) n7]; rfl) (by omega) (by omega)
    · exact cellG _ _ _ (C.owc i (by omega)) (by omega) (by omega)
  · intro i hi
    by_cases e : i = k
    · subst e; exact cellG _ _ _ (by rw [cell_of_row _ _ 7 _ 69 (0, 0) n7]; rfl) (by omega) (by omega)
    · exact cellG _ _ _ (C.plc i (by omega)) (by omega) (by omega)
  · intro i hi
    by_cases e : i = k
    · subst e; exact ⟨#[], 0, (G _ (by omega) (by omega)).trans n5, by simp, by simp, by simp, by simp [cnt, one]⟩
    · exact (C.owm i (by omega)).same (G _ (by omega) (by omega))
  · intro i hi
    by_cases e : i = k
    · subst e; exact ⟨#[], 0, (G _ (by omega) (by omega)).trans n6, by simp, by simp, by simp, by simp [cnt, one]⟩
    · exact (C.plm i (by omega)).same (G _ (by omega) (by omega))
  · refine ⟨_, (G _ (by omega) (by omega)).trans n4, by simpa using hcs, fun i hi => ?_⟩
    rw [Array.getElem?_setIfInBounds]
    by_cases e : k = i
    · subst e; simp [show k < cur.size by omega]
    · simp [e, hci i (by omega)]
  · exact (G _ (by omega) (by omega)).trans ((old _ (by omega) (by omega)).trans h.log)
  · refine ⟨hg.os.trans h.below.os, hg.tape.trans h.below.tape, hg.output.trans h.below.output, by omega, fun b hb => ?_⟩
    rw [G b (by omega) (by omega), old b (by have := h.below.size; omega) (by omega)]
    exact h.below.block b hb

end Go.Proofs.YbulkchjmFmt
