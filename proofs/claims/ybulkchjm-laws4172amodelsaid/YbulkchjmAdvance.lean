/-
  THE LIMITER IN MEMORY; 'advance'.
-/
import Derived.Test.YbulkchjmLim
import Derived.Test.YbulkchjmLocks
namespace Go.Proofs.Ybulkchjm
open Go.RowKit

abbrev clkV (bc bb bn : Nat) : Value := .func (Fn.func 5) #[] #[.pointer (some ⟨bc, 0, none⟩), .pointer (some ⟨bb, 0, none⟩), .pointer (some ⟨bn, 0, none⟩)]

/-- The limiter, in block bl. -/
structure Lim (w : World) (bl : Nat) (per : Int) (clk : Value) (st cur mq mr bq br : Int) : Prop where
  c0 : w.cell? ⟨bl, 0, none⟩ = some (.int .i64 per)
  c1 : w.cell? ⟨bl, 1, none⟩ = some clk
  c2 : w.cell? ⟨bl, 2, none⟩ = some (.int .u64 0)
  c3 : w.cell? ⟨bl, 3, none⟩ = some (.int .i64 0)
  c4 : w.cell? ⟨bl, 4, none⟩ = some (.pointer none)
  c5 : w.cell? ⟨bl, 5, none⟩ = some (.int .i32 st)
  c7 : w.cell? ⟨bl, 7, none⟩ = some (.int .i64 cur)
  c8 : w.cell? ⟨bl, 8, none⟩ = some (.int .i64 mq)
  c9 : w.cell? ⟨bl, 9, none⟩ = some (.int .i64 mr)
  c10 : w.cell? ⟨bl, 10, none⟩ = some (.int .i64 bq)
  c11 : w.cell? ⟨bl, 11, none⟩ = some (.int .i64 br)
  z : ∀ i, w.frozen? ⟨bl, i, none⟩ = false

/-- The clock's cells. -/
structure Clk (w : World) (bc bb bn : Nat) (c T : Int) : Prop where
  cc : w.cell? ⟨bc, 0, none⟩ = some (.int .i64 c)
  zc : w.frozen? ⟨bc, 0, none⟩ = false
  b0 : w.cell? ⟨bb, 0, none⟩ = some (.int .u64 0)
  b1 : w.cell? ⟨bb, 1, none⟩ = some (.int .i64 0)
  b2 : w.cell? ⟨bb, 2, none⟩ = some (.pointer none)
  cn : w.cell? ⟨bn, 0, none⟩ = some (.int .i64 T)
  zn : w.frozen? ⟨bn, 0, none⟩ = false

variable {w w' : World} {bl bc bb bn : Nat} {per : Int} {clk : Value} {st cur mq mr bq br c T : Int}

theorem Lim.lt (h : Lim w bl per clk st cur mq mr bq br) : bl < w.heap.size := World.block_lt_of_cell? _ _ h.c0
theorem Lim.drew (h : Lim w bl per clk st cur mq mr bq br) : Lim w.drew bl per clk st cur mq mr bq br := ⟨h.c0, h.c1, h.c2, h.c3, h.c4, h.c5, h.c7, h.c8, h.c9, h.c10, h.c11, h.z⟩
theorem Lim.fr {S : Nat → Prop} (h : Lim w bl per clk st cur mq mr bq br) (f : Fr S w w') (hs : ¬ S bl) : Lim w' bl per clk st cur mq mr bq br :=
  ⟨f.cell h.c0 hs, f.cell h.c1 hs, f.cell h.c2 hs, f.cell h.c3 hs, f.cell h.c4 hs, f.cell h.c5 hs, f.cell h.c7 hs, f.cell h.c8 hs, f.cell h.c9 hs, f.cell h.c10 hs, f.cell h.c11 hs, fun i => (f.frozen h.lt hs).trans (h.z i)⟩
theorem Clk.fr {S : Nat → Prop} (h : Clk w bc bb bn c T) (f : Fr S w w') (h1 : ¬ S bc) (h2 : ¬ S bb) (h3 : ¬ S bn) : Clk w' bc bb bn c T :=
  ⟨f.cell h.cc h1, (f.frozen (World.block_lt_of_cell? _ _ h.cc) h1).trans h.zc, f.cell h.b0 h2, f.cell h.b1 h2, f.cell h.b2 h2, f.cell h.cn h3, (f.frozen (World.block_lt_of_cell? _ _ h.cn) h3).trans h.zn⟩
theorem Clk.drew (h : Clk w bc bb bn c T) : Clk w.drew bc bb bn c T := ⟨h.cc, h.zc, h.b0, h.b1, h.b2, h.cn, h.zn⟩

theorem Lim.set9 {v : Int} (h : Lim w bl per clk st cur mq mr bq br) (hs : SetTo w w' ⟨bl, 9, none⟩ (.int .i64 v)) : Lim w' bl per clk st cur mq v bq br := by
  rcases hs with rfl | ⟨rfl, hv⟩
  · refine ⟨?_, ?_, ?_, ?_, ?_, ?_, ?_, ?_, World.cell?_setCell_same _ _ _ h.c9, ?_, ?_, fun i => by simpa using h.z i⟩ <;> rw [World.cell?_setCell_other _ _ _ _ (by simp)] <;> simp only [h.c0, h.c1, h.c2, h.c3, h.c4, h.c5, h.c7, h.c8, h.c10, h.c11]
  · exact { h with c9 := hv }
theorem Lim.set11 {v : Int} (h : Lim w bl per clk st cur mq mr bq br) (hs : SetTo w w' ⟨bl, 11, none⟩ (.int .i64 v)) : Lim w' bl per clk st cur mq mr bq v := by
  rcases hs with rfl | ⟨rfl, hv⟩
  · refine ⟨?_, ?_, ?_, ?_, ?_, ?_, ?_, ?_, ?_, ?_, World.cell?_setCell_same _ _ _ h.c11, fun i => by simpa using h.z i⟩ <;> rw [World.cell?_setCell_other _ _ _ _ (by simp)] <;> simp only [h.c0, h.c1, h.c2, h.c3, h.c4, h.c5, h.c7, h.c8, h.c9, h.c10]
  · exact { h with c11 := hv }
theorem Lim.set7 (v : Int) (h : Lim w bl per clk st cur mq mr bq br) : Lim (w.setCell ⟨bl, 7, none⟩ (.int .i64 v)) bl per clk st v mq mr bq br := by
  refine ⟨?_, ?_, ?_, ?_, ?_, ?_, World.cell?_setCell_same _ _ _ h.c7, ?_, ?_, ?_, ?_, fun i => by simpa using h.z i⟩ <;> rw [World.cell?_setCell_other _ _ _ _ (by simp)] <;> simp only [h.c0, h.c1, h.c2, h.c3, h.c4, h.c5, h.c8, h.c9, h.c10, h.c11]
theorem Lim.set5 (v : Int) (h : Lim w bl per clk st cur mq mr bq br) : Lim (w.setCell ⟨bl, 5, none⟩ (.int .i32 v)) bl per clk v cur mq mr bq br := by
  refine ⟨?_, ?_, ?_, ?_, ?_, World.cell?_setCell_same _ _ _ h.c5, ?_, ?_, ?_, ?_, ?_, fun i => by simpa using h.z i⟩ <;> rw [World.cell?_setCell_other _ _ _ _ (by simp)] <;> simp only [h.c0, h.c1, h.c2, h.c3, h.c4, h.c7, h.c8, h.c9, h.c10, h.c11]
theorem SetTo.fr {S : Nat → Prop} {a : Addr} {v : Value} (hs : SetTo w w' a v) (ha : S a.block) : Fr S w w' := by
  rcases hs with rfl | ⟨rfl, _⟩
  · exact (Fr.refl S w).setCell (.inl ha) _
  · exact Fr.refl S w'

/-- What the period's number T / per is bounded by. -/
theorem tdiv_bounds (h0 : 1 ≤ per) (t0 : -32768 ≤ T) (t1 : T ≤ 32767) : -32768 ≤ Int.tdiv T per ∧ Int.tdiv T per ≤ 32767 := by
  by_cases h : 0 ≤ T
  · rw [Int.tdiv_eq_ediv_of_nonneg h]
    have a := Int.ediv_nonneg h (show 0 ≤ per by omega)
    have b := Int.ediv_le_self per h
    omega
  · obtain ⟨U, rfl⟩ : ∃ U : Int, T = -U := ⟨-T, by omega⟩
    rw [Int.neg_tdiv, Int.tdiv_eq_ediv_of_nonneg (by omega)]
    have a := Int.ediv_nonneg (show 0 ≤ U by omega) (show 0 ≤ per by omega)
    have b := Int.ediv_le_self per (show 0 ≤ U by omega)
    omega

/-- Region 0's frame: all but the clock's count is as it was. -/
def AdvB (bc : Nat) (w w' : World) : Prop := Fr (· = bc) w w'

abbrev AdvC (bl : Nat) (per : Int) (clk : Value) (bc : Nat) (w w' : World) : Prop := w'.cell? ⟨bl, 0, none⟩ = some (.int .i64 per) ∧ w'.cell? ⟨bl, 1, none⟩ = some clk ∧ w'.cell? ⟨bl, 2, none⟩ = some (.int .u64 0) ∧ w'.cell? ⟨bl, 3, none⟩ = some (.int .i64 0) ∧ w'.cell? ⟨bl, 4, none⟩ = some (.pointer none) ∧ AdvB bc w w'
theorem AdvC.keep {w2 : World} (h : AdvC bl per clk bc w w') (f : Fr (· = bc) w' w2) (nl : bl ≠ bc) : AdvC bl per clk bc w w2 :=
  ⟨f.cell h.1 nl, f.cell h.2.1 nl, f.cell h.2.2.1 nl, f.cell h.2.2.2.1 nl, f.cell h.2.2.2.2.1 nl, Fr.trans h.2.2.2.2.2 f⟩

theorem advance_any (p : Int) (hL : Lim w bl per (clkV bc bb bn) st cur mq mr bq br) (hC : Clk w bc bb bn c T) (nl : bl ≠ bc) (nb : bc ≠ bb) (nn : bc ≠ bn) (nbl : bb ≠ bl) (nnl : bn ≠ bl)
    (hp : Int.tdiv T per = p) (p0 : 1 ≤ per) (p1 : per ≤ 8) (t0 : -32768 ≤ T) (t1 : T ≤ 32767) (c0 : 0 ≤ c) (c1 : c < 100000) (u0 : 0 ≤ cur) (u1 : cur ≤ 32767) (hm : Rem mq mr) (hb : Rem bq br) :
    Calls Yba.prog 16 #[.pointer (some ⟨bl, 0, none⟩)] w fun e w' => e = .returned (.tuple #[]) ∧
      Lim w' bl per (clkV bc bb bn) st (if p > cur then p else cur) mq (if p > cur then rollF mq mr (p - cur) else mr) bq (if p > cur then rollF bq br (p - cur) else br) ∧
      Clk w' bc bb bn (c + 1) T ∧ Fr (fun k => k = bl ∨ k = bc) w w' := by
  have hpb := tdiv_bounds p0 t0 t1
  rw [hp] at hpb
  obtain ⟨hpb0, hpb1⟩ := hpb
  have a0 : AdvC bl per (clkV bc bb bn) bc w w.drew := ⟨hL.c0, hL.c1, hL.c2, hL.c3, hL.c4, (Fr.refl _ w).drew⟩
  have hD := hC.drew
  have hw1 : IntKind.i64.wrap p = p := IntWalk.i64_in p (by omega)
  have hw2 : IntKind.i64.wrap (p - cur) = p - cur := IntWalk.i64_in _ (by omega)
  have hpz : ¬ per = 0 := by omega
  have hpz' : (per == 0) = false := beq_eq_false_iff_ne.2 hpz
  go_enter Yba.func16, Yba.ntmps16
  go_wp2_with fail
  go_region_held3 (fun w' => w'.cell? ⟨bl, 0, none⟩ = some (.int .i64 per) ∧ w'.cell? ⟨bl, 1, none⟩ = some (clkV bc bb bn) ∧ w'.cell? ⟨bl, 2, none⟩ = some (.int .u64 0) ∧ w'.cell? ⟨bl, 3, none⟩ = some (.int .i64 0) ∧ w'.cell? ⟨bl, 4, none⟩ = some (.pointer none) ∧ AdvB bc w w') (assumption)
    (first
      | (go_at_call 5; refine (clk_any bc bb bn c T _ hD.cc hD.zc hD.b0 hD.b1 hD.b2 hD.cn nb nn c0 c1 t0 t1).mono ?_; rintro e w1 ⟨rfl, hc1, hz1, hF1⟩; have hS1 := AdvC.keep ‹_› hF1 nl)
      | (go_at_call 22; refine (sub_any T _ t0 t1).mono ?_; rintro e w2 ⟨rfl, hB1⟩; have hS2 := AdvC.keep ‹_› (Fr.ofBelow hB1) nl))
  have hL2 : Lim w2 bl per (clkV bc bb bn) st cur mq mr bq br := hL.fr hS2.2.2.2.2.2 nl
  have hC2 : Clk w2 bc bb bn (c + 1) T := by
    have f := hS2.2.2.2.2.2
    exact ⟨Below.keepCell hB1 hc1, (World.frozen?_of_block (hB1.block _ (World.block_lt_of_cell? _ _ hc1))).trans hz1, Fr.cell f hC.b0 (Ne.symm nb), Fr.cell f hC.b1 (Ne.symm nb), Fr.cell f hC.b2 (Ne.symm nb), Fr.cell f hC.cn (Ne.symm nn), (Fr.frozen f (World.block_lt_of_cell? _ _ hC.cn) (Ne.symm nn)).trans hC.zn⟩
  have hF2 : Fr (fun k => k = bl ∨ k = bc) w w2 := Fr.mono hS2.2.2.2.2.2 (fun k h => .inr h)
  rename_i hHeld
  clear hHeld hS2 hB1 hS1 hF1 hz1 hc1 hD a0 hL hC
  have d7 := hL2.c7
  by_cases hpc : p > cur
  · go_wp2_with fail
    have hL2d := hL2.drew
    go_region_held3 (fun w' => w'.cell? ⟨bl, 7, none⟩ = some (.int .i64 cur)) (first | exact hL2d.c7 | assumption)
      (first
        | (go_at_call 23; refine (roll_any bl 8 mq mr (p - cur) _ hL2d.c8 hL2d.c9 (hL2d.z 9) hm (by omega) (by omega)).mono ?_; rintro e w3 ⟨rfl, hs3⟩; have hL3 := hL2d.set9 hs3; have d73 := hL3.c7))
    have hF3 : Fr (fun k => k = bl ∨ k = bc) w w3 := hF2.drew.trans (hs3.fr (.inl rfl))
    have hC3 : Clk w3 bc bb bn (c + 1) T := hC2.drew.fr (S := (· = bl)) (hs3.fr rfl) (Ne.symm nl) nbl nnl
    rename_i hHeld3
    clear hHeld3 hs3 hF2 hC2 hL2d hL2 d7
    go_wp2_with fail
    have hL3d := hL3.drew
    go_region_held3 (fun w' => w'.cell? ⟨bl, 7, none⟩ = some (.int .i64 cur)) (first | exact hL3d.c7 | assumption)
      (first
        | (go_at_call 23; refine (roll_any bl 10 bq br (p - cur) _ hL3d.c10 hL3d.c11 (hL3d.z 11) hb (by omega) (by omega)).mono ?_; rintro e w4 ⟨rfl, hs4⟩; have hL4 := hL3d.set11 hs4; have d74 := hL4.c7))
    have hF4 : Fr (fun k => k = bl ∨ k = bc) w w4 := hF3.drew.trans (hs4.fr (.inl rfl))
    have hC4 : Clk w4 bc bb bn (c + 1) T := hC3.drew.fr (S := (· = bl)) (hs4.fr rfl) (Ne.symm nl) nbl nnl
    rename_i hHeld4
    clear hHeld4 hs4 hF3 hC3 hL3d hL3 d73
    have z7 := hL4.z 7
    go_wp2
    go_end0
    refine ⟨rfl, ?_, hC4.fr (S := (· = bl)) ((Fr.refl (· = bl) w4).setCell (p := ⟨bl, 7, none⟩) (.inl rfl) _) (Ne.symm nl) nbl nnl, hF4.setCell (.inl (.inl rfl)) _⟩
    exact hL4.set7 p
  · go_wp2
    have hn : ¬ p > cur := by omega
    refine bodyPost_ret (results_none rfl _ _ _) rfl ⟨rfl, ?_, hC2, hF2⟩
    simpa only [if_neg hn] using hL2

def curF (p cur : Int) : Int := if p > cur then p else cur
def rolF (q r p cur : Int) : Int := if p > cur then rollF q r (p - cur) else r
theorem rolF_rem {q r p cur : Int} (h : Rem q r) : Rem q (rolF q r p cur) := by
  unfold rolF
  split
  · exact rollF_rem h (by omega)
  · exact h

theorem advance_def (p : Int) (hL : Lim w bl per (clkV bc bb bn) st cur mq mr bq br) (hC : Clk w bc bb bn c T) (nl : bl ≠ bc) (nb : bc ≠ bb) (nn : bc ≠ bn) (nbl : bb ≠ bl) (nnl : bn ≠ bl)
    (hp : Int.tdiv T per = p) (p0 : 1 ≤ per) (p1 : per ≤ 8) (t0 : -32768 ≤ T) (t1 : T ≤ 32767) (c0 : 0 ≤ c) (c1 : c < 100000) (u0 : 0 ≤ cur) (u1 : cur ≤ 32767) (hm : Rem mq mr) (hb : Rem bq br) :
    Calls Yba.prog 16 #[.pointer (some ⟨bl, 0, none⟩)] w fun e w' => e = .returned (.tuple #[]) ∧
      Lim w' bl per (clkV bc bb bn) st (curF p cur) mq (rolF mq mr p cur) bq (rolF bq br p cur) ∧
      Clk w' bc bb bn (c + 1) T ∧ Fr (fun k => k = bl ∨ k = bc) w w' :=
  advance_any p hL hC nl nb nn nbl nnl hp p0 p1 t0 t1 c0 c1 u0 u1 hm hb
end Go.Proofs.Ybulkchjm
