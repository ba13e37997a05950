/-
  (*zzs4172bev).Assigned (function 57): it appends one call to the log behind its receiver.
-/
import Derived.Test.YbulkchjmFmtBase
import Derived.Laws.Pointers
import Derived.Deep.RegionHeld3
import Derived.Deep.RegionLaw
import Derived.Deep.AppendLies
import Derived.Deep.DrawnRows
namespace Go.Proofs.YbulkchjmFmt
open Go.RowKit Go.Maps Go.WideMaps
attribute [local go_sem ↓] Go.wp_at_zero Go.wp_at_succ

theorem info81 : (Ybaf.prog.info? 81).map (fun i => (i.zero, i.size, i.bytes)) = some (some (.agg #[.string ByteArray.empty, .string ByteArray.empty, .string ByteArray.empty, .int .i64 0, .bool false]), 5, 64) := by kernel_rfl

def callCells (bu fr br : ByteArray) (ru : Int) : List Value := [.string bu, .string fr, .string br, .int .i64 ru, .bool false]

theorem assigned_fin {EV n base gg cap : Nat} {v : Value} {xs ys : List Value} {w w1 : World} {o : Obj} (e1 : w1.cell? ⟨EV, 0, none⟩ = some v) (e2 : w1.frozen? ⟨EV, 0, none⟩ = false)
    (hown1 : w1.ownsRow base 81 5 (.slice (some ⟨gg, 0, none⟩) (n + 1) cap) (n + 1) (xs ++ ys)) (hgrow : (w.alloc o).drew.grownBy w1 v.ownBlock) (hat : v.ownBlock = some gg ∨ gg = w.heap.size + 1) (ag : v.ownBlock ≠ some EV) (lg : EV < w.heap.size) :
    ∃ g cap', (w1.setCell ⟨EV, 0, none⟩ (.slice (some ⟨gg, 0, none⟩) (n + 1) cap)).cell? ⟨EV, 0, none⟩ = some (.slice (some ⟨g, 0, none⟩) (n + 1) cap') ∧ (w1.setCell ⟨EV, 0, none⟩ (.slice (some ⟨gg, 0, none⟩) (n + 1) cap)).frozen? ⟨EV, 0, none⟩ = false ∧
      (w1.setCell ⟨EV, 0, none⟩ (.slice (some ⟨gg, 0, none⟩) (n + 1) cap)).ownsRow base 81 5 (.slice (some ⟨g, 0, none⟩) (n + 1) cap') (n + 1) (xs ++ ys) ∧
        (v.ownBlock = some g ∨ w.heap.size ≤ g) ∧ Fr (fun k => k = EV ∨ v.ownBlock = some k) w (w1.setCell ⟨EV, 0, none⟩ (.slice (some ⟨gg, 0, none⟩) (n + 1) cap)) := by
  have hne : gg ≠ EV := by
    rintro rfl
    rcases hat with h | h
    · exact ag h
    · omega
  refine ⟨gg, cap, World.cell?_setCell_same _ _ _ e1, by rw [World.frozen?_setCell]; exact e2, ?_, hat.imp id (fun h => by omega), ?_⟩
  · obtain ⟨h1, h2⟩ := hown1
    refine ⟨h1, ?_⟩
    rcases h2 with h2 | ⟨g, c, cur, hv, hg, hh, r⟩
    · exact .inl h2
    · simp only [Value.slice.injEq, Option.some.injEq, Addr.mk.injEq, and_true, true_and] at hv
      obtain ⟨rfl, rfl⟩ := hv
      exact .inr ⟨gg, cap, cur, rfl, hg, by rw [Below.heap_setCell _ _ _ _ hne]; exact hh, r⟩
  · refine Fr.setCell (Fr.grown ((Fr.refl _ w).alloc o).drew hgrow (fun k hk => .inl (.inr hk))) (.inl (.inl rfl)) _

set_option maxRecDepth 100000 in
set_option maxHeartbeats 3200000 in
theorem assigned (EV D n base : Nat) (v : Value) (xs : List Value) (bu fr br : ByteArray) (ru : Int) (w : World)
    (hev : w.cell? ⟨EV, 0, none⟩ = some v) (hfz : w.frozen? ⟨EV, 0, none⟩ = false) (hd0 : w.cell? ⟨D, 0, none⟩ = some (.string br)) (hd1 : w.cell? ⟨D, 1, none⟩ = some (.int .i64 ru))
    (hown : w.ownsRow base 81 5 v n xs) (hn : n ≤ 1024) (hbase : base ≤ w.heap.size) (ag : v.ownBlock ≠ some EV) :
    Calls Ybaf.prog 57 #[.pointer (some ⟨EV, 0, none⟩), .string bu, .string fr, .pointer (some ⟨D, 0, none⟩)] w fun e w' => e = .returned (.tuple #[]) ∧
      ∃ g cap, w'.cell? ⟨EV, 0, none⟩ = some (.slice (some ⟨g, 0, none⟩) (n + 1) cap) ∧ w'.frozen? ⟨EV, 0, none⟩ = false ∧ w'.ownsRow base 81 5 (.slice (some ⟨g, 0, none⟩) (n + 1) cap) (n + 1) (xs ++ callCells bu fr br ru) ∧
        (v.ownBlock = some g ∨ w.heap.size ≤ g) ∧ Fr (fun k => k = EV ∨ v.ownBlock = some k) w w' := by
  obtain ⟨i0, hi0, hz0, hz1, hz2⟩ := info_parts info81
  have lg := World.block_lt_of_cell? w _ hev
  have ld := World.block_lt_of_cell? w _ hd0
  have n1 := World.new_ne w _ hev
  have n2 := World.new_ne w _ hd0
  have hfa : ∀ (c : Array Value) (t : TypeId), (w.alloc (.cells c t)).frozen? ⟨EV, 0, none⟩ = false := fun c t => (frozen?_alloc_cells w c t _).trans hfz
  have hea : ∀ o, (w.alloc o).cell? ⟨EV, 0, none⟩ = some v := fun o => by rw [World.cell?_alloc_past _ _ _ lg]; exact hev
  go_enter Ybaf.func57, Ybaf.ntmps57
  go_wp2_with fail
  go_region_law
    ((refine step_append_lies _ (by rfl) _ _ _ (by rfl) base 81 i0 _ 5 64 Ybaf.underlying54 hi0 hz0 hz1 hz2 rfl (by omega) v n xs (by rfl) ((hown.alloc _).drew)
        ⟨w.heap.size, 0, none⟩ 1 1 (callCells bu fr br ru) (by rfl) (by rfl) (World.news_of_block (cs := #[.string bu, .string fr, .string br, .int .i64 ru, .bool false]) (t := 81) (fr := (0, 0)) (heap_alloc_new w _)) (by simp [Value.oneCell', callCells])
        (by omega) (by unfold maxLen; omega) (by omega) (by simp; omega) (w.heap.size + 1) (by simp) ?_; intro gg cap w1 hown1 hgrow hat hlt; have e1 : w1.cell? ⟨EV, 0, none⟩ = some v := (by rw [hgrow.cell_far _ (by simp; omega) (Ne.symm ag)]; exact hea _); have e2 : w1.frozen? ⟨EV, 0, none⟩ = false := (by rw [hgrow.frozen_far _ (by simp; omega) (Ne.symm ag)]; exact hfa _ _)))
  all_goals go_end0
  all_goals exact ⟨rfl, assigned_fin e1 e2 hown1 hgrow hat ag lg⟩
end Go.Proofs.YbulkchjmFmt
