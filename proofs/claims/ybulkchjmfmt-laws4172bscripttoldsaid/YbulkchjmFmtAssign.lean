/-
  (*Service).assign (function 5), no ranking: without Events, and with them.
-/
import Derived.Test.YbulkchjmFmtCore
import Derived.Test.YbulkchjmFmtAssigned
import Derived.Deep.DeepCutAuto
namespace Go.Proofs.YbulkchjmFmt
open Go.RowKit Go.Maps Go.WideMaps

theorem zero58 (w : World) : (zeroValue 58).run Ybaf.prog w = .ok (.pointer none) w := by kernel_rfl
theorem zero9 (w : World) : (zeroValue 9).run Ybaf.prog w = .ok (.string ⟨#[]⟩) w := by kernel_rfl
theorem zero41 (w : World) : (zeroValue 41).run Ybaf.prog w = .ok (.agg #[]) w := by kernel_rfl

theorem not_turned {B nb D : Nat} (hD : B + 5 + 3 * nb ≤ D) : ¬ Turned B nb D := by unfold Turned; omega

theorem assign_core_yes {B nb k j : Nat} {evs : Value} {own : Nat → Option Nat} {lf : Nat → ByteArray} {pb : Nat → Bool} {ru : Int} {w : World} {o : Option Nat}
    (C : Core B nb evs (upd own k (some j)) (upd (ow1 own (owOf own lf) k) j (upd (ow1 own (owOf own lf) k j) k (some (.string (fromOf o))))) (upd (ow1 own (plOf own pb) k) j (upd (ow1 own (plOf own pb) k j) k (some (.agg #[])))) w) (hru : (ru != 3) = true) :
    Core B nb evs (upd own k (some j)) (owOf (upd own k (some j)) (upd lf k (fromOf o))) (plOf (upd own k (some j)) (upd pb k (ru != 3))) w := by
  rw [hru]
  exact C.congr (fun _ _ => rfl) (fun i k' _ _ => ow2_of own lf k j _ i k') (fun i k' _ _ => pl2_yes own pb k j i k')

theorem assign_core_no {B nb k j : Nat} {evs : Value} {own : Nat → Option Nat} {lf : Nat → ByteArray} {pb : Nat → Bool} {ru : Int} {w : World} {o : Option Nat}
    (C : Core B nb evs (upd own k (some j)) (upd (ow1 own (owOf own lf) k) j (upd (ow1 own (owOf own lf) k j) k (some (.string (fromOf o))))) (ow1 own (plOf own pb) k) w) (hru : (ru != 3) = false) :
    Core B nb evs (upd own k (some j)) (owOf (upd own k (some j)) (upd lf k (fromOf o))) (plOf (upd own k (some j)) (upd pb k (ru != 3))) w := by
  rw [hru]
  exact C.congr (fun _ _ => rfl) (fun i k' _ _ => ow2_of own lf k j _ i k') (fun i k' _ _ => pl2_no own pb k j i k')

set_option maxRecDepth 100000 in
set_option maxHeartbeats 2000000 in
theorem assign_nil (B nb k j D : Nat) (own : Nat → Option Nat) (lf : Nat → ByteArray) (pb : Nat → Bool) (ru : Int) (w : World) (C : Core B nb .nilIface own (owOf own lf) (plOf own pb) w)
    (hk : k < 3) (hj : j < nb) (hnb : nb ≤ 3) (hlt : ∀ i, own k = some i → i < nb) (hD : B + 5 + 3 * nb ≤ D) (hd0 : w.cell? ⟨D, 0, none⟩ = some (.string (nameS j))) (hd1 : w.cell? ⟨D, 1, none⟩ = some (.int .i64 ru)) :
    Calls Ybaf.prog 5 #[.pointer (some ⟨B + 2, 0, none⟩), .string (keyS k), .pointer (some ⟨D, 0, none⟩)] w fun e w' => e = .returned (brk B j) ∧
      Core B nb .nilIface (upd own k (some j)) (owOf (upd own k (some j)) (upd lf k (fromOf (own k)))) (plOf (upd own k (some j)) (upd pb k (ru != 3))) w' ∧ Fr (Turned B nb) w w' := by
  have hlk := C.owners.look keyFam Ybaf.underlying24 (zero58 w) hk false
  have ho := C.o
  have hr := C.r
  cases hown : own k with
  | none =>
    have HC : Hid (Core B nb .nilIface own (ow1 own (owOf own lf) k) (ow1 own (plOf own pb) k) w) := by unfold ow1; rw [hown]; exact C
    simp only [hown, Option.map_none, Option.getD_none, Bool.false_eq_true, if_false] at hlk
    clear C
    go_enter Ybaf.func5, Ybaf.ntmps5
    go_wp2_with fail
    have HF : Hid (Fr (Turned B nb) w w) := Fr.refl _ _
    have hD0 : w.cell? ⟨D, 0, none⟩ = some (.string (nameS j)) := HF.out.cell hd0 (not_turned hD)
    have hD1 : w.cell? ⟨D, 1, none⟩ = some (.int .i64 ru) := HF.out.cell hd1 (not_turned hD)
    have hm := HC.out.m
    have hlb : ∀ n, (Instr.lookup 24 (.map (some B)) (.string (nameS j)) false).run Ybaf.prog (w.drewN n) = .ok (.pointer (some ⟨B + 7 + 3 * j, 0, none⟩)) (w.drewN n) := fun n => by simpa [hj, brk] using (HC.out.drewN n).names.look nameFam Ybaf.underlying24 (zero58 _) (by omega : j < 3) false
    go_quiet (fail)
    have C3 := HC.out.drewN nq
    have F3 := HF.out.drewN nq
    have hD3 := F3.cell hd1 (not_turned hD)
    clear HC HF hlb hm hD0 hD1
    generalize w.drewN nq = W3 at C3 F3 hD3 ⊢
    have ho6 := C3.owc j hj
    have hom := C3.owm j hj
    by_cases hru : (ru != 3) = true
    · go_wp2_with (first | (at_mapUpdate; refine wpList_put rfl (.tmp 47) (.tmp 48) (.tmp 49) 60 9 rfl Ybaf.underlying60 (B + 5 + 3 * j) keyS _ keyFam k _ rfl rfl rfl hom hk ?_; intro w4 hm4 hg4; have C4 := C3.turnOw hg4 hm4; have hD4 := cell_grown hg4 hD3 (show D ≠ B + 5 + 3 * j by omega); have hp4 := C4.plc j hj; have hpm4 := C4.plm j hj) | (at_mapUpdate; refine wpList_put rfl (.tmp 58) (.tmp 59) (.tmp 60) 40 41 rfl Ybaf.underlying40 (B + 6 + 3 * j) keyS _ keyFam k _ rfl rfl rfl hpm4 hk ?_; intro w5 hm5 hg5; have C5 := C4.turnPl hg5 hm5; have hr5 := C5.r; have ho5 := C5.o; have hos5 := C5.owners) | (at_mapUpdate; refine wpList_put rfl (.tmp 67) (.tmp 68) (.tmp 69) 24 58 rfl Ybaf.underlying24 (B + 1) keyS _ keyFam k _ rfl rfl rfl hos5 hk ?_; intro w6 hm6 hg6; have C6 := C5.turnOwners hg6 hm6; have he6 := C6.e) | (go_at_call 7; refine (reweigh_nil _ _ _ hr5).mono ?_; rintro e w' ⟨rfl, rfl⟩))
      go_wp2
      go_ret
      exact ⟨rfl, assign_core_yes C6 hru, ((F3.grown hg4 (fun b hb => by cases hb; exact .inl (.inr (by omega)))).grown hg5 (fun b hb => by cases hb; exact .inl (.inr (by omega)))).grown hg6 (fun b hb => by cases hb; exact .inl (.inl rfl))⟩
    · have hru' : (ru != 3) = false := by simpa using hru
      clear hru
      go_wp2_with (first | (at_mapUpdate; refine wpList_put rfl (.tmp 47) (.tmp 48) (.tmp 49) 60 9 rfl Ybaf.underlying60 (B + 5 + 3 * j) keyS _ keyFam k _ rfl rfl rfl hom hk ?_; intro w4 hm4 hg4; have C4 := C3.turnOw hg4 hm4; have hD4 := cell_grown hg4 hD3 (show D ≠ B + 5 + 3 * j by omega); have ho5 := C4.o; have hos5 := C4.owners) | (at_mapUpdate; refine wpList_put rfl (.tmp 67) (.tmp 68) (.tmp 69) 24 58 rfl Ybaf.underlying24 (B + 1) keyS _ keyFam k _ rfl rfl rfl hos5 hk ?_; intro w6 hm6 hg6; have C6 := C4.turnOwners hg6 hm6; have he6 := C6.e))
      go_wp2
      go_ret
      exact ⟨rfl, assign_core_no C6 hru', (F3.grown hg4 (fun b hb => by cases hb; exact .inl (.inr (by omega)))).grown hg6 (fun b hb => by cases hb; exact .inl (.inl rfl))⟩
  | some i =>
    have hi := hlt i hown
    have hown1 := C.owm i hi
    have hpl1 := C.plm i hi
    have hc0 := C.name i hi
    have hc6 := C.owc i hi
    have hc7 := C.plc i hi
    simp only [hown, Option.map_some, Option.getD_some, Bool.false_eq_true, if_false, brk] at hlk
    have HC : Hid (Core B nb .nilIface own (owOf own lf) (plOf own pb) w) := C
    clear C
    go_enter Ybaf.func5, Ybaf.ntmps5
    go_wp2_with (first
      | (at_delete; refine wpList_del rfl (.tmp 21) (.tmp 22) 60 9 rfl Ybaf.underlying60 (B + 5 + 3 * i) keyS (owOf own lf i) keyFam k rfl rfl hown1 hk ?_; intro w1 hm1 hg1; have C1 := HC.out.turnOw hg1 hm1; have hc7' := C1.plc i hi; have hpl2 := C1.plm i hi)
      | (at_delete; refine wpList_del rfl (.tmp 26) (.tmp 27) 40 41 rfl Ybaf.underlying40 (B + 6 + 3 * i) keyS (plOf own pb i) keyFam k rfl rfl hpl2 hk ?_; intro w2 hm2 hg2; have C2 := C1.turnPl hg2 hm2; have hr2 := C2.r; have hn2 := C2.name i hi)
      | (go_at_call 7; refine (reweigh_nil _ _ _ hr2).mono ?_; rintro e w' ⟨rfl, rfl⟩))
    have HC : Hid (Core B nb .nilIface own (ow1 own (owOf own lf) k) (ow1 own (plOf own pb) k) w2) := by unfold ow1; rw [hown]; exact C2
    have HF : Hid (Fr (Turned B nb) w w2) := ((Fr.refl _ w).grown hg1 (fun b hb => by cases hb; exact .inl (.inr (by omega)))).grown hg2 (fun b hb => by cases hb; exact .inl (.inr (by omega)))
    clear C1 C2 hm1 hm2 hg1 hg2 hc0 hc6 hc7 hc7' hpl1 hpl2 hown1 hr2 hn2
    have hD0 : w2.cell? ⟨D, 0, none⟩ = some (.string (nameS j)) := HF.out.cell hd0 (not_turned hD)
    have hD1 : w2.cell? ⟨D, 1, none⟩ = some (.int .i64 ru) := HF.out.cell hd1 (not_turned hD)
    have hm := HC.out.m
    have hlb : ∀ n, (Instr.lookup 24 (.map (some B)) (.string (nameS j)) false).run Ybaf.prog (w2.drewN n) = .ok (.pointer (some ⟨B + 7 + 3 * j, 0, none⟩)) (w2.drewN n) := fun n => by simpa [hj, brk] using (HC.out.drewN n).names.look nameFam Ybaf.underlying24 (zero58 _) (by omega : j < 3) false
    go_quiet (fail)
    have C3 := HC.out.drewN nq
    have F3 := HF.out.drewN nq
    have hD3 := F3.cell hd1 (not_turned hD)
    clear HC HF hlb hm hD0 hD1
    generalize w2.drewN nq = W3 at C3 F3 hD3 ⊢
    have ho6 := C3.owc j hj
    have hom := C3.owm j hj
    by_cases hru : (ru != 3) = true
    · go_wp2_with (first | (at_mapUpdate; refine wpList_put rfl (.tmp 47) (.tmp 48) (.tmp 49) 60 9 rfl Ybaf.underlying60 (B + 5 + 3 * j) keyS _ keyFam k _ rfl rfl rfl hom hk ?_; intro w4 hm4 hg4; have C4 := C3.turnOw hg4 hm4; have hD4 := cell_grown hg4 hD3 (show D ≠ B + 5 + 3 * j by omega); have hp4 := C4.plc j hj; have hpm4 := C4.plm j hj) | (at_mapUpdate; refine wpList_put rfl (.tmp 58) (.tmp 59) (.tmp 60) 40 41 rfl Ybaf.underlying40 (B + 6 + 3 * j) keyS _ keyFam k _ rfl rfl rfl hpm4 hk ?_; intro w5 hm5 hg5; have C5 := C4.turnPl hg5 hm5; have hr5 := C5.r; have ho5 := C5.o; have hos5 := C5.owners) | (at_mapUpdate; refine wpList_put rfl (.tmp 67) (.tmp 68) (.tmp 69) 24 58 rfl Ybaf.underlying24 (B + 1) keyS _ keyFam k _ rfl rfl rfl hos5 hk ?_; intro w6 hm6 hg6; have C6 := C5.turnOwners hg6 hm6; have he6 := C6.e) | (go_at_call 7; refine (reweigh_nil _ _ _ hr5).mono ?_; rintro e w' ⟨rfl, rfl⟩))
      go_wp2
      go_ret
      exact ⟨rfl, assign_core_yes C6 hru, ((F3.grown hg4 (fun b hb => by cases hb; exact .inl (.inr (by omega)))).grown hg5 (fun b hb => by cases hb; exact .inl (.inr (by omega)))).grown hg6 (fun b hb => by cases hb; exact .inl (.inl rfl))⟩
    · have hru' : (ru != 3) = false := by simpa using hru
      clear hru
      go_wp2_with (first | (at_mapUpdate; refine wpList_put rfl (.tmp 47) (.tmp 48) (.tmp 49) 60 9 rfl Ybaf.underlying60 (B + 5 + 3 * j) keyS _ keyFam k _ rfl rfl rfl hom hk ?_; intro w4 hm4 hg4; have C4 := C3.turnOw hg4 hm4; have hD4 := cell_grown hg4 hD3 (show D ≠ B + 5 + 3 * j by omega); have ho5 := C4.o; have hos5 := C4.owners) | (at_mapUpdate; refine wpList_put rfl (.tmp 67) (.tmp 68) (.tmp 69) 24 58 rfl Ybaf.underlying24 (B + 1) keyS _ keyFam k _ rfl rfl rfl hos5 hk ?_; intro w6 hm6 hg6; have C6 := C4.turnOwners hg6 hm6; have he6 := C6.e))
      go_wp2
      go_ret
      exact ⟨rfl, assign_core_no C6 hru', (F3.grown hg4 (fun b hb => by cases hb; exact .inl (.inr (by omega)))).grown hg6 (fun b hb => by cases hb; exact .inl (.inl rfl))⟩
end Go.Proofs.YbulkchjmFmt
