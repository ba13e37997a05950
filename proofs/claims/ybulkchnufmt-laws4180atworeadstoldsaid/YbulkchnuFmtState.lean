/-
  The law's reader and decoder in memory.
-/
import Derived.Test.YbulkchnuFmtLeast
import Derived.OwnWalk
import Derived.Laws.OwnMore
namespace Go.Proofs.YbulkchnuFmt
open Go.RowKit Go.Extern.Stop Go.Stop Go.Extern

/-- The decoder's error: none, or one that wraps ErrMalformed. -/
def ErrIs (g : GV) (bd : Nat) : Bool → World → Prop
  | false, w => w.cell? ⟨bd, 4, none⟩ = some .nilIface
  | true, w => ∃ nb, w.cell? ⟨bd, 4, none⟩ = some (.iface 70 (.pointer (some ⟨nb, 0, none⟩))) ∧ w.cell? ⟨nb, 1, none⟩ = some (.iface 48 (.pointer (some g.aM)))

structure St (F : Interp) (g : GV) (B br bd : Nat) (a : Option Addr) (len cap : Nat) (z : List Int) (k : Nat) (err : Bool) (w : World) : Prop where
  glob : Glob g B w
  ans : F.answers w.tape
  src : Src w a len z B
  rd : Rd w br (.slice a len cap) k
  d0 : w.cell? ⟨bd, 0, none⟩ = some (.iface 23 (.pointer (some ⟨br, 0, none⟩)))
  d1 : w.cell? ⟨bd, 1, none⟩ = some (.string metaS)
  z4 : w.frozen? ⟨bd, 4, none⟩ = false
  d4 : ErrIs g bd err w
  hB : B ≤ br
  hBd : B ≤ bd
  ne : br ≠ bd
  hk : k ≤ len

variable {F : Interp} {g : GV} {B br bd : Nat} {a : Option Addr} {len cap : Nat} {z : List Int} {k : Nat} {err : Bool} {w w' : World}

theorem St.ltd (h : St F g B br bd a len cap z k err w) : bd < w.heap.size := World.block_lt_of_cell? _ _ h.d0
theorem St.hBw (h : St F g B br bd a len cap z k err w) : B ≤ w.heap.size := Nat.le_trans h.hBd (Nat.le_of_lt h.ltd)

theorem ErrIs.below (h : ErrIs g bd err w) (b : Below w.heap.size w w') : ErrIs g bd err w' := by
  cases err with
  | false =>
    have h' : w.cell? ⟨bd, 4, none⟩ = some .nilIface := h
    exact Below.keepCell b h' (World.block_lt_of_cell? _ _ h')
  | true =>
    obtain ⟨nb, h1, h2⟩ := h
    exact ⟨nb, Below.keepCell b h1 (World.block_lt_of_cell? _ _ h1), Below.keepCell b h2 (World.block_lt_of_cell? _ _ h2)⟩

theorem St.below (h : St F g B br bd a len cap z k err w) (b : Below w.heap.size w w') : St F g B br bd a len cap z k err w' where
  glob := h.glob.below (b.mono h.hBw)
  ans := by rw [b.tape]; exact h.ans
  src := h.src.below (b.mono h.hBw)
  rd := h.rd.fr (S := fun _ => False) (Fr.ofBelow b) (fun x => x)
  d0 := Below.keepCell b h.d0 h.ltd
  d1 := Below.keepCell b h.d1 h.ltd
  z4 := (World.frozen?_of_block (b.block bd h.ltd)).trans h.z4
  d4 := h.d4.below b
  hB := h.hB
  hBd := h.hBd
  ne := h.ne
  hk := h.hk

theorem St.drew (h : St F g B br bd a len cap z k err w) : St F g B br bd a len cap z k err w.drew := h.below (Below.refl _ w).drew

/-- Behind io.ReadFull. -/
theorem St.read {k' bb : Nat} (h : St F g B br bd a len cap z k false w) (f : Fr (fun i => i = br ∨ i = bb) w w') (R : Rd w' br (.slice a len cap) k') (hbb : B ≤ bb) (hne : bb ≠ bd) (hk' : k' ≤ len) : St F g B br bd a len cap z k' false w' := by
  have hn : ¬ (bd = br ∨ bd = bb) := fun x => x.elim (fun e => h.ne e.symm) (fun e => hne e.symm)
  have bl : Below B w w' := f.below' (fun i hi => by have := h.hB; omega) h.hBw
  exact ⟨h.glob.below bl, by rw [f.tape]; exact h.ans, h.src.below bl, R, f.cell h.d0 hn, f.cell h.d1 hn, (f.frozen h.ltd hn).trans h.z4, f.cell (p := ⟨bd, 4, none⟩) h.d4 hn, h.hB, h.hBd, h.ne, hk'⟩

/-- Behind Failf. -/
theorem St.fail {nb : Nat} (h : St F g B br bd a len cap z k false w) (c : FailC F g B bd w w') (h4 : w'.cell? ⟨bd, 4, none⟩ = some (.iface 70 (.pointer (some ⟨nb, 0, none⟩)))) (hm : w'.cell? ⟨nb, 1, none⟩ = some (.iface 48 (.pointer (some g.aM)))) : St F g B br bd a len cap z k true w' := by
  have bl : Below B w w' := c.2.2.fr.below' (fun i hi => by have := h.hBd; omega) h.hBw
  exact ⟨c.2.2.glob, c.2.2.ans, h.src.below bl, h.rd.fr c.2.2.fr h.ne, (c.2.2.cells 0 (by omega)).trans h.d0, c.2.1, (c.2.2.froz 4).trans h.z4, ⟨nb, h4, hm⟩, h.hB, h.hBd, h.ne, h.hk⟩

theorem info5 : (Ybaf.prog.info? 5).map (fun i => (i.zero, i.size, i.bytes)) = some (some (.int .u8 0), 1, 1) := by kernel_rfl

/-- What 'make' leaves. -/
theorem made_row {w w1 : World} {n : Nat} (hown : w1.ownsRow w.heap.size 5 1 (.slice (some ⟨w.heap.size, 0, none⟩) n n) n (madeCells (Value.int .u8 0).cells (n * 1)).toList) (hgrow : w.grownBy w1 none) :
    w1.heap[w.heap.size]? = some (.cells (List.replicate n (.int .u8 0)).toArray 5 (0, 0)) ∧ Below w.heap.size w w1 := by
  have hbel : Below w.heap.size w w1 := (Below.refl _ _).grown hgrow (Nat.le_refl _) (by intro k hk; cases hk)
  refine ⟨?_, hbel⟩
  rcases hown.2 with ⟨h, _⟩ | ⟨g', cap', cur, h', _, hg, _, _, hcs, hx⟩
  · cases h
  · simp only [Value.slice.injEq, Option.some.injEq, Addr.mk.injEq, true_and, and_true] at h'
    obtain ⟨rfl, rfl⟩ := h'
    rw [hg]
    have e : cur.toList = List.replicate n (.int .u8 0) := by
      rw [← toList_madeCells_one, Nat.mul_one] at *
      rw [List.take_of_length_le (by simp [hcs])] at hx
      exact hx
    rw [← e]
end Go.Proofs.YbulkchnuFmt
