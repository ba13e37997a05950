/-
  THE LISTED VARIABLES AS THE WALK WANTS THEM; the frame; formatOf, Noun at "metadata".
-/
import Derived.Test.YbulkchnuFmtFacts
import Derived.WalkLawsBesides
import Derived.WalkSmall
import Derived.Laws.ResultCell
import Derived.Deep.RegionHeld3
import Derived.Deep.CutBlock
namespace Go.Proofs.YbulkchnuFmt
open Go.RowKit Go.Extern.Stop Go.Stop Go.Extern

/-! ### THE FRAME: w' is w but for the blocks of S and new ones -/
structure Fr (S : Nat → Prop) (w w' : World) : Prop where
  os : w'.os = w.os
  tape : w'.tape = w.tape
  output : w'.output = w.output
  size : w.heap.size ≤ w'.heap.size
  block : ∀ k, k < w.heap.size → ¬ S k → w'.heap[k]? = w.heap[k]?

theorem Fr.refl (S : Nat → Prop) (w : World) : Fr S w w := ⟨rfl, rfl, rfl, Nat.le_refl _, fun _ _ _ => rfl⟩
theorem Fr.trans {S : Nat → Prop} {a b c : World} (h : Fr S a b) (k : Fr S b c) : Fr S a c :=
  ⟨k.os.trans h.os, k.tape.trans h.tape, k.output.trans h.output, Nat.le_trans h.size k.size, fun i hi hs => (k.block i (Nat.lt_of_lt_of_le hi h.size) hs).trans (h.block i hi hs)⟩
theorem Fr.mono {S S' : Nat → Prop} {w w' : World} (h : Fr S w w') (hs : ∀ k, S k → S' k) : Fr S' w w' :=
  ⟨h.os, h.tape, h.output, h.size, fun k hk hn => h.block k hk (fun x => hn (hs k x))⟩
theorem Fr.drew {S : Nat → Prop} {a b : World} (h : Fr S a b) : Fr S a b.drew := ⟨h.os, h.tape, h.output, h.size, h.block⟩
theorem Fr.alloc {S : Nat → Prop} {a b : World} (h : Fr S a b) (o : Obj) : Fr S a (b.alloc o) :=
  h.trans ⟨rfl, rfl, rfl, by simp, fun k hk _ => Below.heap_alloc _ _ _ hk⟩
theorem Fr.setCell {S : Nat → Prop} {a b : World} (h : Fr S a b) {p : Addr} (hp : S p.block ∨ a.heap.size ≤ p.block) (u : Value) : Fr S a (b.setCell p u) :=
  ⟨h.os, h.tape, h.output, by simpa [World.setCell] using h.size, fun k hk hs => by
    rw [Below.heap_setCell _ _ _ _ (by rintro rfl; rcases hp with hp | hp; exact hs hp; omega)]
    exact h.block k hk hs⟩
theorem Fr.ofBelow {S : Nat → Prop} {w w' : World} (h : Below w.heap.size w w') : Fr S w w' := ⟨h.os, h.tape, h.output, h.size, fun k hk _ => h.block k hk⟩
theorem Fr.below {S : Nat → Prop} {w w' : World} (h : Fr S w w') {B : Nat} (hb : B ≤ w.heap.size) (hs : ∀ k, k < B → ¬ S k) : Below B w w' :=
  ⟨h.os, h.tape, h.output, h.size, fun k hk => h.block k (Nat.lt_of_lt_of_le hk hb) (hs k hk)⟩
theorem Fr.cell {S : Nat → Prop} {w w' : World} (h : Fr S w w') {p : Addr} {v : Value} (hc : w.cell? p = some v) (hs : ¬ S p.block) : w'.cell? p = some v := by
  rw [World.cell?_of_block (w := w) (h.block p.block (World.block_lt_of_cell? _ _ hc) hs)]
  exact hc
theorem Fr.frozen {S : Nat → Prop} {w w' : World} (h : Fr S w w') {p : Addr} (hl : p.block < w.heap.size) (hs : ¬ S p.block) : w'.frozen? p = w.frozen? p :=
  World.frozen?_of_block (w := w) (h.block p.block hl hs)


theorem Below.keepCell {w w' : World} {B : Nat} {p : Addr} {v : Value} (h : Below B w w') (hc : w.cell? p = some v) (hl : p.block < B) : w'.cell? p = some v := by
  rw [World.cell?_of_block (w := w) (h.block p.block hl)]
  exact hc

abbrev metaS : ByteArray := ⟨#[109, 101, 116, 97, 100, 97, 116, 97]⟩
abbrev endsS : ByteArray := ⟨#[105, 116, 32, 101, 110, 100, 115, 32, 101, 97, 114, 108, 121]⟩

/-- Where the listed variables' values lie. -/
structure GV where
  (aM aE aU : Addr)
  (bf off capf : Nat)
  (sM : ByteArray)
  (cE cU : Array Value)
  (tE tU : TypeId)

/-- What the listed variables hold, all of it in blocks below B. -/
structure Glob (g : GV) (B : Nat) (w : World) : Prop where
  m : w.cell? ⟨0, 0, none⟩ = some (.iface 48 (.pointer (some g.aM)))
  e : w.cell? ⟨1, 0, none⟩ = some (.iface 48 (.pointer (some g.aE)))
  u : w.cell? ⟨2, 0, none⟩ = some (.iface 48 (.pointer (some g.aU)))
  f : w.cell? ⟨4, 0, none⟩ = some (.slice (some ⟨g.bf, g.off, none⟩) 20 g.capf)
  ms : w.cell? g.aM = some (.string g.sM)
  er : w.heap[g.aE.block]? = some (.cells g.cE g.tE (0, 0))
  ur : w.heap[g.aU.block]? = some (.cells g.cU g.tU (0, 0))
  ne : g.aE ≠ g.aU
  f0 : w.cell? ⟨g.bf, g.off, none⟩ = some (.string ⟨#[111, 119, 110, 101, 114, 32, 107, 101, 121]⟩)
  f1 : w.cell? ⟨g.bf, g.off + 1, none⟩ = some (.string ⟨#[72, 70, 45, 79, 75, 69, 89, 10]⟩)
  f2 : w.cell? ⟨g.bf, g.off + 2, none⟩ = some (.int .i64 2)
  f3 : w.cell? ⟨g.bf, g.off + 3, none⟩ = some (.int .i64 1)
  f4 : w.cell? ⟨g.bf, g.off + 4, none⟩ = some (.bool false)
  f5 : w.cell? ⟨g.bf, g.off + 5, none⟩ = some (.string metaS)
  f6 : w.cell? ⟨g.bf, g.off + 6, none⟩ = some (.string ⟨#[72, 70, 45, 77, 69, 84, 65, 10]⟩)
  f7 : w.cell? ⟨g.bf, g.off + 7, none⟩ = some (.int .i64 8)
  f8 : w.cell? ⟨g.bf, g.off + 8, none⟩ = some (.int .i64 3)
  f9 : w.cell? ⟨g.bf, g.off + 9, none⟩ = some (.bool false)
  l4 : 4 < B
  lM : g.aM.block < B
  lE : g.aE.block < B
  lU : g.aU.block < B
  lF : g.bf < B

theorem Glob.below {g : GV} {B : Nat} {w w' : World} (h : Glob g B w) (b : Below B w w') : Glob g B w' where
  m := Below.keepCell b h.m (by have := h.l4; show 0 < B; omega)
  e := Below.keepCell b h.e (by have := h.l4; show 1 < B; omega)
  u := Below.keepCell b h.u (by have := h.l4; show 2 < B; omega)
  f := Below.keepCell b h.f h.l4
  ms := Below.keepCell b h.ms h.lM
  er := (b.block _ h.lE).trans h.er
  ur := (b.block _ h.lU).trans h.ur
  ne := h.ne
  f0 := Below.keepCell b h.f0 h.lF
  f1 := Below.keepCell b h.f1 h.lF
  f2 := Below.keepCell b h.f2 h.lF
  f3 := Below.keepCell b h.f3 h.lF
  f4 := Below.keepCell b h.f4 h.lF
  f5 := Below.keepCell b h.f5 h.lF
  f6 := Below.keepCell b h.f6 h.lF
  f7 := Below.keepCell b h.f7 h.lF
  f8 := Below.keepCell b h.f8 h.lF
  f9 := Below.keepCell b h.f9 h.lF
  l4 := h.l4
  lM := h.lM
  lE := h.lE
  lU := h.lU
  lF := h.lF

theorem formatOf_meta {g : GV} {B : Nat} (w : World) (h : Glob g B w) :
    Calls Ybaf.prog 19 #[.string metaS] w fun e w' => e = .returned (.tuple #[.agg #[.string metaS, .string ⟨#[72, 70, 45, 77, 69, 84, 65, 10]⟩, .int .i64 8, .int .i64 3, .bool false], .bool true]) ∧ Below w.heap.size w w' := by
  have lf := World.block_lt_of_cell? _ _ h.f
  have lb := World.block_lt_of_cell? _ _ h.f0
  have a := h.f
  have a0 := h.f0
  have a1 := h.f1
  have a2 := h.f2
  have a3 := h.f3
  have a4 := h.f4
  have a5 := h.f5
  have a6 := h.f6
  have a7 := h.f7
  have a8 := h.f8
  have a9 := h.f9
  have e0 := World.new_ne w _ a0
  clear h
  go_enter Ybaf.func19, Ybaf.ntmps19
  go_wp2
  refine wp_loop_rounds 2 ?_
  rw [rounds_succ]
  go_wp2
  rw [rounds_succ]
  go_wp2
  (try simp only [Exit.inBlock, Exit.then])
  refine bodyPost_ret (v := .tuple #[.agg #[.string metaS, .string ⟨#[72, 70, 45, 77, 69, 84, 65, 10]⟩, .int .i64 8, .int .i64 3, .bool false], .bool true]) ?_ rfl ⟨rfl, ?_⟩
  · rw [results_cell_tmp rfl]
    go_simp
  (repeat' (first | exact Below.refl _ _ | refine Below.drew ?_ | refine Below.alloc ?_ (by simp <;> omega) _))

theorem noun_meta {g : GV} {B : Nat} (w : World) (h : Glob g B w) :
    Calls Ybaf.prog 16 #[.string metaS] w fun e w' => ∃ x : ByteArray, e = .returned (.string x) ∧ Below w.heap.size w w' := by
  go_enter Ybaf.func16, Ybaf.ntmps16
  go_wp2_with fail
  refine (formatOf_meta w h).mono ?_
  rintro e w1 ⟨rfl, hb⟩
  have hs := hb.size
  go_wp2
  go_ret
  refine ⟨_, rfl, ?_⟩
  exact hb.alloc hs _
end Go.Proofs.YbulkchnuFmt
