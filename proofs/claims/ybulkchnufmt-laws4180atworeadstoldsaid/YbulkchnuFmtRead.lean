/-
  The law's reader: Read.
-/
import Derived.Test.YbulkchnuFmtFail
import Derived.Laws.CopyRow
import Derived.Laws.CopyOwn
import Derived.Deep.QuietTactic
import Derived.BigQuiet
import Derived.WideShapes
namespace Go.Proofs.YbulkchnuFmt
open Go.RowKit Go.Extern.Stop Go.Stop Go.Extern

theorem size5 : (Ybaf.prog.info? 5).map (·.size) = some 1 := by kernel_rfl

/-- The reader, in block br: its data, how far it has read. -/
structure Rd (w : World) (br : Nat) (data : Value) (k : Nat) : Prop where
  c0 : w.cell? ⟨br, 0, none⟩ = some data
  c1 : w.cell? ⟨br, 1, none⟩ = some (.int .i64 k)
  c2 : ∃ c : Int, w.cell? ⟨br, 2, none⟩ = some (.int .i64 c)
  z : ∀ i, w.frozen? ⟨br, i, none⟩ = false

theorem Rd.lt {w : World} {br k : Nat} {data : Value} (h : Rd w br data k) : br < w.heap.size := World.block_lt_of_cell? _ _ h.c0
theorem Rd.fr {S : Nat → Prop} {w w' : World} {br k : Nat} {data : Value} (h : Rd w br data k) (f : Fr S w w') (hs : ¬ S br) : Rd w' br data k :=
  ⟨f.cell h.c0 hs, f.cell h.c1 hs, h.c2.imp fun _ hc => f.cell hc hs, fun i => (f.frozen h.lt hs).trans (h.z i)⟩
theorem Rd.set2 {w : World} {br k : Nat} {data : Value} (h : Rd w br data k) (c : Int) : Rd (w.setCell ⟨br, 2, none⟩ (.int .i64 c)) br data k := by
  obtain ⟨c', hc⟩ := h.c2
  refine ⟨?_, ?_, ⟨c, World.cell?_setCell_same _ _ _ hc⟩, fun i => by simpa using h.z i⟩
  · rw [World.cell?_setCell_other _ _ _ _ (by simp)]; exact h.c0
  · rw [World.cell?_setCell_other _ _ _ _ (by simp)]; exact h.c1
theorem Rd.set1 {w : World} {br k : Nat} {data : Value} (h : Rd w br data k) (k' : Nat) : Rd (w.setCell ⟨br, 1, none⟩ (.int .i64 k')) br data k' := by
  obtain ⟨c', hc⟩ := h.c2
  refine ⟨?_, World.cell?_setCell_same _ _ _ h.c1, ⟨c', ?_⟩, fun i => by simpa using h.z i⟩
  · rw [World.cell?_setCell_other _ _ _ _ (by simp)]; exact h.c0
  · rw [World.cell?_setCell_other _ _ _ _ (by simp)]; exact hc

/-- Nothing left: io.EOF. -/
theorem read_end {g : GV} {B : Nat} (br k : Nat) (a : Option Addr) (len cap : Nat) (p : Value) (w : World) (G : Glob g B w) (R : Rd w br (.slice a len cap) k) (hB : B ≤ br) (hk : len ≤ k) :
    Calls Ybaf.prog 35 #[.pointer (some ⟨br, 0, none⟩), p] w fun e w' => e = .returned (.tuple #[.int .i64 0, .iface 48 (.pointer (some g.aE))]) ∧ Rd w' br (.slice a len cap) k ∧ Fr (· = br) w w' := by
  obtain ⟨c, hc⟩ := R.c2
  have r0 := R.c0
  have r1 := R.c1
  have z2 := R.z 2
  have ge := G.e
  have hb0 : br ≠ 0 := by have := G.l4; omega
  have hb1 : br ≠ 1 := by have := G.l4; omega
  have hRf : Rd (w.setCell ⟨br, 2, none⟩ (.int .i64 (wrap64 (c + 1)))) br (.slice a len cap) k := R.set2 _
  have HF : Hid (Rd (w.setCell ⟨br, 2, none⟩ (.int .i64 (wrap64 (c + 1)))) br (.slice a len cap) k) := hRf
  clear G R hRf
  go_enter Ybaf.func35, Ybaf.ntmps35
  go_wp2_with fail
  go_region
  all_goals go_wp2_with fail
  all_goals go_region
  all_goals go_wp2
  all_goals go_ret2
  all_goals exact ⟨rfl, HF.out.fr (S := (· = 0)) (Fr.refl _ _).drew.drew hb0, ((Fr.refl (· = br) w).setCell (p := ⟨br, 2, none⟩) (.inl rfl) _).drew.drew⟩

/-- The bytes of the data that a read of at most m takes from k on. -/
def bytesAt (z : List Int) (k m : Nat) : List Value := ((z.drop k).take m).map (Value.int .u8)

theorem copy_step {w : World} {b off len cap bb n s k dcap m : Nat} {z : List Int} {cur : List Value} (hz : z.length = len) (hn : n ≤ s) (hcur : cur.length = s) (hm : m = min (len - k) (s - n))
    (hrow : w.heap[bb]? = some (.cells cur.toArray 5 (0, 0))) (hsrc : ∀ j, j < len → w.cell? ⟨b, off + j, none⟩ = some (.int .u8 (z.getD j 0))) :
    (Builtin.copy_ #[22, 22] 3 #[.slice (some ⟨bb, n, none⟩) (s - n) dcap, .slice (some ⟨b, off + k, none⟩) (len - k) cap]).run Ybaf.prog w = .ok (.int .i64 m) (w.setRow bb (splice cur n (bytesAt z k m)).toArray) := by
  have hl : (bytesAt z k m).length = m := by
    simp only [bytesAt, List.length_map, List.length_take, List.length_drop, hz]
    omega
  have h := run_copy_row (P := Ybaf.prog) w 22 22 3 5 bb n (s - n) dcap ⟨b, off + k, none⟩ (len - k) cap cur.toArray 5 (bytesAt z k m) Ybaf.underlying22 size5 hrow (hl.trans hm)
    (fun j v hv => by
      have hj : j < (bytesAt z k m).length := (List.getElem?_eq_some_iff.1 hv).1
      rw [hl] at hj
      have hj2 : k + j < len := by omega
      have e : (⟨b, off + k, none⟩ : Addr).add j = ⟨b, off + (k + j), none⟩ := by rw [Go.WideShapes.add_plain, Nat.add_assoc]
      rw [e, hsrc _ hj2, ← hv]
      have hj3 : k + j < z.length := by omega
      simp [bytesAt, hj, List.getD, List.getElem?_drop, List.getElem?_eq_getElem hj3])
    (by rw [hl]; simp only [List.size_toArray]; omega)
    (fun v hv => by simp only [bytesAt, List.mem_map] at hv; obtain ⟨y, _, rfl⟩ := hv; rfl)
  rw [hl] at h
  rw [h]
  simp [splice, goInt, hl]

theorem Fr.setRow {S : Nat → Prop} {a b : World} (h : Fr S a b) {g : Nat} (hg : S g) (cs : Array Value) : Fr S a (b.setRow g cs) :=
  h.trans ⟨rfl, rfl, rfl, by simp [World.setRow], fun k _ hs => setRow_other b g k cs (by rintro rfl; exact hs hg)⟩

theorem lt_of_row {w : World} {B : Nat} {o : Obj} (h : w.heap[B]? = some o) : B < w.heap.size := by
  by_cases hh : B < w.heap.size
  · exact hh
  · rw [Array.getElem?_eq_none (by omega)] at h
    cases h

/-- m bytes more, from k on, to the buffer's place n. -/
theorem read_some (br k b off len cap bb n s dcap m : Nat) (z : List Int) (cur : List Value) (w : World) (R : Rd w br (.slice (some ⟨b, off, none⟩) len cap) k) (hk : k < len) (hl : len ≤ 1024)
    (hz : z.length = len) (hn : n ≤ s) (hcur : cur.length = s) (hm : m = min (len - k) (s - n))
    (hrow : w.heap[bb]? = some (.cells cur.toArray 5 (0, 0))) (hsrc : ∀ j, j < len → w.cell? ⟨b, off + j, none⟩ = some (.int .u8 (z.getD j 0))) (n1 : bb ≠ br) (n2 : b ≠ bb) (n3 : b ≠ br) (hcap : len ≤ cap) :
    Calls Ybaf.prog 35 #[.pointer (some ⟨br, 0, none⟩), .slice (some ⟨bb, n, none⟩) (s - n) dcap] w fun e w' => e = .returned (.tuple #[.int .i64 m, .nilIface]) ∧
      Rd w' br (.slice (some ⟨b, off, none⟩) len cap) (k + m) ∧ w'.heap[bb]? = some (.cells (splice cur n (bytesAt z k m)).toArray 5 (0, 0)) ∧ Fr (fun i => i = br ∨ i = bb) w w' := by
  obtain ⟨c, hc⟩ := R.c2
  have r0 := R.c0
  have r1 := R.c1
  have z1 := R.z 1
  have z2 := R.z 2
  have hR2 : Rd (w.setCell ⟨br, 2, none⟩ (.int .i64 (wrap64 (c + 1)))) br (.slice (some ⟨b, off, none⟩) len cap) k := R.set2 _
  have hF2 : Fr (· = br) w (w.setCell ⟨br, 2, none⟩ (.int .i64 (wrap64 (c + 1)))) := (Fr.refl (· = br) w).setCell (p := ⟨br, 2, none⟩) (.inl rfl) _
  go_enter Ybaf.func35, Ybaf.ntmps35
  go_wp2_with fail
  generalize (w.setCell ⟨br, 2, none⟩ (.int .i64 (wrap64 (c + 1)))) = W at hR2 hF2 ⊢
  have q0 := hR2.c0
  have q1 := hR2.c1
  go_region
  all_goals go_wp2_with fail
  have hrowW : W.drew.drew.heap[bb]? = some (.cells cur.toArray 5 (0, 0)) := (hF2.block bb (lt_of_row hrow) n1).trans hrow
  have hsrcW : ∀ j, j < len → W.drew.drew.cell? ⟨b, off + j, none⟩ = some (.int .u8 (z.getD j 0)) := fun j hj => hF2.cell (hsrc j hj) n3
  have hcopy := copy_step (w := W.drew.drew) (cap := cap - k) (dcap := dcap) (b := b) (off := off) hz hn hcur hm hrowW hsrcW
  have hR4 : Rd (W.drew.drew.setRow bb (splice cur n (bytesAt z k m)).toArray) br (.slice (some ⟨b, off, none⟩) len cap) k := hR2.fr (S := (· = bb)) ((Fr.refl (· = bb) W).drew.drew.setRow rfl _) (Ne.symm n1)
  have hrow4 : (W.drew.drew.setRow bb (splice cur n (bytesAt z k m)).toArray).heap[bb]? = some (.cells (splice cur n (bytesAt z k m)).toArray 5 (0, 0)) := setRow_heap _ _ _ _ _ _ hrowW
  have hF4 : Fr (fun i => i = br ∨ i = bb) w (W.drew.drew.setRow bb (splice cur n (bytesAt z k m)).toArray) := ((hF2.mono (fun _ h => .inl h)).drew.drew).setRow (.inr rfl) _
  clear hrowW hsrcW hsrc hrow hF2 R
  generalize (W.drew.drew.setRow bb (splice cur n (bytesAt z k m)).toArray) = W4 at hcopy hR4 hrow4 hF4
  have t1 := hR4.c1
  have tz := hR4.z 1
  have hkm : k + m ≤ 1024 := by omega
  have hR5 : Hid (Rd (W4.setCell ⟨br, 1, none⟩ (.int .i64 ((k : Int) + (m : Int)))) br (.slice (some ⟨b, off, none⟩) len cap) (k + m)) := by
    have := hR4.set1 (k + m)
    rwa [Int.natCast_add] at this
  clear hm
  go_region
  all_goals go_wp2
  all_goals go_ret2
  all_goals exact ⟨rfl, hR5.out, by rw [Below.heap_setCell _ _ _ _ (by exact n1)]; exact hrow4, hF4.setCell (.inl (.inl rfl)) _⟩
end Go.Proofs.YbulkchnuFmt
