/-
  (*Service).assign (function 5), no ranking, with Events.
-/
import Derived.Test.YbulkchjmFmtAssign
namespace Go.Proofs.YbulkchjmFmt
open Go.RowKit Go.Maps Go.WideMaps

theorem method57 (a : Addr) (w : World) : (method 173 53 (.pointer (some a)) "Assigned").run Ybaf.prog w = .ok (57, .pointer (some a)) w := by kernel_rfl
theorem ahead57 (a : Addr) (w : World) : (nilAhead 173 53 (.pointer (some a)) "Assigned").run Ybaf.prog w = .ok (some false) w := by kernel_rfl

theorem not_turned3 {B nb : Nat} : ¬ Turned B nb (B + 3) := by unfold Turned; omega

/-- The log behind an assign: it has grown by one call, in its own row or in a new one. -/
def Logged (B nb base n : Nat) (v : Value) (ys : List Value) (w w' : World) : Prop :=
  ∃ g cap, w'.cell? ⟨B + 3, 0, none⟩ = some (.slice (some ⟨g, 0, none⟩) (n + 1) cap) ∧ w'.frozen? ⟨B + 3, 0, none⟩ = false ∧ w'.ownsRow base 81 5 (.slice (some ⟨g, 0, none⟩) (n + 1) cap) (n + 1) ys ∧
    (v.ownBlock = some g ∨ w.heap.size ≤ g) ∧ Fr (fun b => Turned B nb b ∨ b = B + 3 ∨ v.ownBlock = some b) w w'

theorem Fr.owns {S : Nat → Prop} {w w' : World} {base : Nat} {e : TypeId} {size : Nat} {v : Value} {n : Nat} {xs : List Value} (hf : Fr S w w') (h : w.ownsRow base e size v n xs) (hs : ∀ b, base ≤ b → ¬ S b) : w'.ownsRow base e size v n xs := by
  obtain ⟨h1, h2⟩ := h
  refine ⟨h1, ?_⟩
  rcases h2 with h2 | ⟨g, c, cur, hv, hg, hh, r⟩
  · exact .inl h2
  · exact .inr ⟨g, c, cur, hv, hg, by rw [hf.block g (Array.getElem?_eq_some_iff.1 hh).1 (hs g hg)]; exact hh, r⟩

theorem own_ge {w : World} {base : Nat} {e : TypeId} {size : Nat} {v : Value} {n : Nat} {xs : List Value} (h : w.ownsRow base e size v n xs) {b : Nat} (hb : v.ownBlock = some b) : base ≤ b := by
  rcases h.2 with ⟨rfl, _⟩ | ⟨g, c, cur, rfl, hg, _⟩
  · cases hb
  · simp [Value.ownBlock] at hb
    omega

theorem own_ne {w : World} {base : Nat} {e : TypeId} {size : Nat} {v : Value} {n : Nat} {xs : List Value} (h : w.ownsRow base e size v n xs) {b : Nat} (hb : b < base) : v.ownBlock ≠ some b := fun e => by
  have := own_ge h e
  omega

theorem logged_of {B nb base n : Nat} {v : Value} {ys : List Value} {w w6 w7 : World} (F6 : Fr (Turned B nb) w w6)
    (h : ∃ g cap, w7.cell? ⟨B + 3, 0, none⟩ = some (.slice (some ⟨g, 0, none⟩) (n + 1) cap) ∧ w7.frozen? ⟨B + 3, 0, none⟩ = false ∧ w7.ownsRow base 81 5 (.slice (some ⟨g, 0, none⟩) (n + 1) cap) (n + 1) ys ∧ (v.ownBlock = some g ∨ w6.heap.size ≤ g) ∧ Fr (fun k => k = B + 3 ∨ v.ownBlock = some k) w6 w7) :
    Logged B nb base n v ys w w7 := by
  obtain ⟨g, cap, h1, h2, h3, h4, h5⟩ := h
  refine ⟨g, cap, h1, h2, h3, h4.imp id (fun h => Nat.le_trans F6.size h), ?_⟩
  exact (F6.mono (fun b hb => .inl hb)).trans (h5.mono (fun b hb => .inr hb))

theorem logged_core {B nb base n : Nat} {evs v : Value} {xs ys : List Value} {own : Nat → Option Nat} {ow pl : Nat → Nat → Option Value} {w w6 w7 : World} (C : Core B nb evs own ow pl w6) (ho : w.ownsRow base 81 5 v n xs) (hB : B + 5 + 3 * nb ≤ base)
    (h : ∃ g cap, w7.cell? ⟨B + 3, 0, none⟩ = some (.slice (some ⟨g, 0, none⟩) (n + 1) cap) ∧ w7.frozen? ⟨B + 3, 0, none⟩ = false ∧ w7.ownsRow base 81 5 (.slice (some ⟨g, 0, none⟩) (n + 1) cap) (n + 1) ys ∧ (v.ownBlock = some g ∨ w6.heap.size ≤ g) ∧ Fr (fun k => k = B + 3 ∨ v.ownBlock = some k) w6 w7) :
    Core B nb evs own ow pl w7 := by
  obtain ⟨g, cap, h1, h2, h3, h4, h5⟩ := h
  refine C.fr h5 ?_
  rintro b hb (rfl | h)
  · unfold InCore at hb; omega
  · have := own_ge ho h
    unfold InCore at hb; omega

set_option maxRecDepth 100000 in
set_option maxHeartbeats 2000000 in
theorem assign_ev (B nb k j D : Nat) (own : Nat → Option Nat) (lf : Nat → ByteArray) (pb : Nat → Bool) (ru : Int) (w : World) (C : Core B nb (.iface 53 (.pointer (some ⟨B + 3, 0, none⟩))) own (owOf own lf) (plOf own pb) w)
    (hk : k < 3) (hj : j < nb) (hnb : nb ≤ 3) (hlt : ∀ i, own k = some i → i < nb) (hD : B + 5 + 3 * nb ≤ D) (hd0 : w.cell? ⟨D, 0, none⟩ = some (.string (nameS j))) (hd1 : w.cell? ⟨D, 1, none⟩ = some (.int .i64 ru))
    (base n : Nat) (v : Value) (xs : List Value) (hev : w.cell? ⟨B + 3, 0, none⟩ = some v) (hfz : w.frozen? ⟨B + 3, 0, none⟩ = false) (hown0 : w.ownsRow base 81 5 v n xs) (hn : n ≤ 1024) (hbase : base ≤ w.heap.size) (hB : B + 5 + 3 * nb ≤ base) :
    Calls Ybaf.prog 5 #[.pointer (some ⟨B + 2, 0, none⟩), .string (keyS k), .pointer (some ⟨D, 0, none⟩)] w fun e w' => e = .returned (brk B j) ∧
      Core B nb (.iface 53 (.pointer (some ⟨B + 3, 0, none⟩))) (upd own k (some j)) (owOf (upd own k (some j)) (upd lf k (fromOf (own k)))) (plOf (upd own k (some j)) (upd pb k (ru != 3))) w' ∧
      Logged B nb base n v (xs ++ callCells (keyS k) (fromOf (own k)) (nameS j) ru) w w' := by
  have HE : Hid (w.cell? ⟨B + 3, 0, none⟩ = some v) := hev
  have HZ : Hid (w.frozen? ⟨B + 3, 0, none⟩ = false) := hfz
  have HO : Hid (w.ownsRow base 81 5 v n xs) := hown0
  clear hev hfz hown0
  have hmeth := method57 ⟨B + 3, 0, none⟩
  have hahead := ahead57 ⟨B + 3, 0, none⟩
  have hlk := C.owners.look keyFam Ybaf.underlying24 (zero58 w) hk false
  have ho := C.o
  have hr := C.r
  cases hown : own k with
  | none =>
    have HC : Hid (Core B nb (.iface 53 (.pointer (some ⟨B + 3, 0, none⟩))) own (ow1 own (owOf own lf) k) (ow1 own (plOf own pb) k) w) := by unfold ow1; rw [hown]; exact C
    simp only [hown, Option.map_none, Option.getD_none, Bool.false_eq_true, if_false] at hlk
    clear C
    go_enter Ybaf.func5, Ybaf.ntmps5
    go_wp2_with fail
    have HF : Hid (Fr (Turned B nb) w w) := Fr.refl _ _
    have hD0 : w.cell? ⟨D, 0, none⟩ = some (.string (nameS j)) := HF.out.cell hd0 (not_turned hD)
    have hD1 : w.cell? ⟨D, 1, none⟩ = some (.int .i64 ru) := HF.out.cell hd1 (not_turned hD)
    have hm := HC.out.m
    have hlb : ∀ n, (Instr.lookup 24 (.map (some B)) (.string (nameS j)) false).run Ybaf.prog (w.drewN n) = .ok (.pointer (some ⟨B + 7 + 3 * j, 0, none⟩)) (w.drewN n) := fun n => by simpa [hj, brk] using (HC.out.drewN n).names.look nameFam Ybaf.underlying24 (zero58 _) (by omega : j < 3) false
    go_quiet (fail)
    have C3 := HC.out.drewN nq
    have F3 := HF.out.drewN nq
    have hD3 := F3.cell hd1 (not_turned hD)
    clear HC HF hlb hm hD0 hD1
    generalize w.drewN nq = W3 at C3 F3 hD3 ⊢
    have ho6 := C3.owc j hj
    have hom := C3.owm j hj
    by_cases hru : (ru != 3) = true
    · go_wp2_with (first | (at_mapUpdate; refine wpList_put rfl (.tmp 47) (.tmp 48) (.tmp 49) 60 9 rfl Ybaf.underlying60 (B + 5 + 3 * j) keyS _ keyFam k (.string (fromOf none)) rfl rfl rfl hom hk ?_; intro w4 hm4 hg4; have C4 := C3.turnOw hg4 hm4; have hD4 := cell_grown hg4 hD3 (show D ≠ B + 5 + 3 * j by omega); have hp4 := C4.plc j hj; have hpm4 := C4.plm j hj) | (at_mapUpdate; refine wpList_put rfl (.tmp 58) (.tmp 59) (.tmp 60) 40 41 rfl Ybaf.underlying40 (B + 6 + 3 * j) keyS _ keyFam k (.agg #[]) rfl rfl rfl hpm4 hk ?_; intro w5 hm5 hg5; have C5 := C4.turnPl hg5 hm5; have hr5 := C5.r; have ho5 := C5.o; have hos5 := C5.owners) | (at_mapUpdate; refine wpList_put rfl (.tmp 67) (.tmp 68) (.tmp 69) 24 58 rfl Ybaf.underlying24 (B + 1) keyS _ keyFam k (brk B j) rfl rfl rfl hos5 hk ?_; intro w6 hm6 hg6; have C6 := C5.turnOwners hg6 hm6; have he6 := C6.e; have F6 := ((F3.grown hg4 (fun b hb => by cases hb; exact .inl (.inr (by omega)))).grown hg5 (fun b hb => by cases hb; exact .inl (.inr (by omega)))).grown hg6 (fun b hb => by cases hb; exact .inl (.inl rfl))) | (go_at_call 7; refine (reweigh_nil _ _ _ hr5).mono ?_; rintro e w' ⟨rfl, rfl⟩))
      refine (assigned (B + 3) D n base v xs (keyS k) (fromOf none) (nameS j) ru _ (F6.cell HE.out not_turned3) ((F6.frozen (World.block_lt_of_cell? _ _ HE.out) not_turned3).trans HZ.out) (F6.cell hd0 (not_turned hD)) (F6.cell hd1 (not_turned hD)) (F6.owns HO.out (fun b hb => not_turned (Nat.le_trans hB hb))) hn (Nat.le_trans hbase F6.size) (own_ne HO.out (by omega))).mono ?_
      rintro e w7 ⟨rfl, hL⟩
      have hfin := logged_of F6 hL
      have hcore := logged_core (assign_core_yes C6 hru) HO.out hB hL
      clear hL F6 C6 he6
      go_wp2
      go_ret
      exact ⟨rfl, hcore, hfin⟩
    · have hru' : (ru != 3) = false := by simpa using hru
      clear hru
      go_wp2_with (first | (at_mapUpdate; refine wpList_put rfl (.tmp 47) (.tmp 48) (.tmp 49) 60 9 rfl Ybaf.underlying60 (B + 5 + 3 * j) keyS _ keyFam k (.string (fromOf none)) rfl rfl rfl hom hk ?_; intro w4 hm4 hg4; have C4 := C3.turnOw hg4 hm4; have hD4 := cell_grown hg4 hD3 (show D ≠ B + 5 + 3 * j by omega); have ho5 := C4.o; have hos5 := C4.owners) | (at_mapUpdate; refine wpList_put rfl (.tmp 67) (.tmp 68) (.tmp 69) 24 58 rfl Ybaf.underlying24 (B + 1) keyS _ keyFam k (brk B j) rfl rfl rfl hos5 hk ?_; intro w6 hm6 hg6; have C6 := C4.turnOwners hg6 hm6; have he6 := C6.e; have F6 := (F3.grown hg4 (fun b hb => by cases hb; exact .inl (.inr (by omega)))).grown hg6 (fun b hb => by cases hb; exact .inl (.inl rfl))))
      refine (assigned (B + 3) D n base v xs (keyS k) (fromOf none) (nameS j) ru _ (F6.cell HE.out not_turned3) ((F6.frozen (World.block_lt_of_cell? _ _ HE.out) not_turned3).trans HZ.out) (F6.cell hd0 (not_turned hD)) (F6.cell hd1 (not_turned hD)) (F6.owns HO.out (fun b hb => not_turned (Nat.le_trans hB hb))) hn (Nat.le_trans hbase F6.size) (own_ne HO.out (by omega))).mono ?_
      rintro e w7 ⟨rfl, hL⟩
      have hfin := logged_of F6 hL
      have hcore := logged_core (assign_core_no C6 hru') HO.out hB hL
      clear hL F6 C6 he6
      go_wp2
      go_ret
      exact ⟨rfl, hcore, hfin⟩
  | some i =>
    have hi := hlt i hown
    have hown1 := C.owm i hi
    have hpl1 := C.plm i hi
    have hc0 := C.name i hi
    have hc6 := C.owc i hi
    have hc7 := C.plc i hi
    simp only [hown, Option.map_some, Option.getD_some, Bool.false_eq_true, if_false, brk] at hlk
    have HC : Hid (Core B nb (.iface 53 (.pointer (some ⟨B + 3, 0, none⟩))) own (owOf own lf) (plOf own pb) w) := C
    clear C
    go_enter Ybaf.func5, Ybaf.ntmps5
    go_wp2_with (first
      | (at_delete; refine wpList_del rfl (.tmp 21) (.tmp 22) 60 9 rfl Ybaf.underlying60 (B + 5 + 3 * i) keyS (owOf own lf i) keyFam k rfl rfl hown1 hk ?_; intro w1 hm1 hg1; have C1 := HC.out.turnOw hg1 hm1; have hc7' := C1.plc i hi; have hpl2 := C1.plm i hi)
      | (at_delete; refine wpList_del rfl (.tmp 26) (.tmp 27) 40 41 rfl Ybaf.underlying40 (B + 6 + 3 * i) keyS (plOf own pb i) keyFam k rfl rfl hpl2 hk ?_; intro w2 hm2 hg2; have C2 := C1.turnPl hg2 hm2; have hr2 := C2.r; have hn2 := C2.name i hi)
      | (go_at_call 7; refine (reweigh_nil _ _ _ hr2).mono ?_; rintro e w' ⟨rfl, rfl⟩))
    have HC : Hid (Core B nb (.iface 53 (.pointer (some ⟨B + 3, 0, none⟩))) own (ow1 own (owOf own lf) k) (ow1 own (plOf own pb) k) w2) := by unfold ow1; rw [hown]; exact C2
    have HF : Hid (Fr (Turned B nb) w w2) := ((Fr.refl _ w).grown hg1 (fun b hb => by cases hb; exact .inl (.inr (by omega)))).grown hg2 (fun b hb => by cases hb; exact .inl (.inr (by omega)))
    clear C1 C2 hm1 hm2 hg1 hg2 hc0 hc6 hc7 hc7' hpl1 hpl2 hown1 hr2 hn2
    have hD0 : w2.cell? ⟨D, 0, none⟩ = some (.string (nameS j)) := HF.out.cell hd0 (not_turned hD)
    have hD1 : w2.cell? ⟨D, 1, none⟩ = some (.int .i64 ru) := HF.out.cell hd1 (not_turned hD)
    have hm := HC.out.m
    have hlb : ∀ n, (Instr.lookup 24 (.map (some B)) (.string (nameS j)) false).run Ybaf.prog (w2.drewN n) = .ok (.pointer (some ⟨B + 7 + 3 * j, 0, none⟩)) (w2.drewN n) := fun n => by simpa [hj, brk] using (HC.out.drewN n).names.look nameFam Ybaf.underlying24 (zero58 _) (by omega : j < 3) false
    go_quiet (fail)
    have C3 := HC.out.drewN nq
    have F3 := HF.out.drewN nq
    have hD3 := F3.cell hd1 (not_turned hD)
    clear HC HF hlb hm hD0 hD1
    generalize w2.drewN nq = W3 at C3 F3 hD3 ⊢
    have ho6 := C3.owc j hj
    have hom := C3.owm j hj
    by_cases hru : (ru != 3) = true
    · go_wp2_with (first | (at_mapUpdate; refine wpList_put rfl (.tmp 47) (.tmp 48) (.tmp 49) 60 9 rfl Ybaf.underlying60 (B + 5 + 3 * j) keyS _ keyFam k (.string (fromOf (some i))) rfl rfl rfl hom hk ?_; intro w4 hm4 hg4; have C4 := C3.turnOw hg4 hm4; have hD4 := cell_grown hg4 hD3 (show D ≠ B + 5 + 3 * j by omega); have hp4 := C4.plc j hj; have hpm4 := C4.plm j hj) | (at_mapUpdate; refine wpList_put rfl (.tmp 58) (.tmp 59) (.tmp 60) 40 41 rfl Ybaf.underlying40 (B + 6 + 3 * j) keyS _ keyFam k (.agg #[]) rfl rfl rfl hpm4 hk ?_; intro w5 hm5 hg5; have C5 := C4.turnPl hg5 hm5; have hr5 := C5.r; have ho5 := C5.o; have hos5 := C5.owners) | (at_mapUpdate; refine wpList_put rfl (.tmp 67) (.tmp 68) (.tmp 69) 24 58 rfl Ybaf.underlying24 (B + 1) keyS _ keyFam k (brk B j) rfl rfl rfl hos5 hk ?_; intro w6 hm6 hg6; have C6 := C5.turnOwners hg6 hm6; have he6 := C6.e; have F6 := ((F3.grown hg4 (fun b hb => by cases hb; exact .inl (.inr (by omega)))).grown hg5 (fun b hb => by cases hb; exact .inl (.inr (by omega)))).grown hg6 (fun b hb => by cases hb; exact .inl (.inl rfl))) | (go_at_call 7; refine (reweigh_nil _ _ _ hr5).mono ?_; rintro e w' ⟨rfl, rfl⟩))
      refine (assigned (B + 3) D n base v xs (keyS k) (fromOf (some i)) (nameS j) ru _ (F6.cell HE.out not_turned3) ((F6.frozen (World.block_lt_of_cell? _ _ HE.out) not_turned3).trans HZ.out) (F6.cell hd0 (not_turned hD)) (F6.cell hd1 (not_turned hD)) (F6.owns HO.out (fun b hb => not_turned (Nat.le_trans hB hb))) hn (Nat.le_trans hbase F6.size) (own_ne HO.out (by omega))).mono ?_
      rintro e w7 ⟨rfl, hL⟩
      have hfin := logged_of F6 hL
      have hcore := logged_core (assign_core_yes C6 hru) HO.out hB hL
      clear hL F6 C6 he6
      go_wp2
      go_ret
      exact ⟨rfl, hcore, hfin⟩
    · have hru' : (ru != 3) = false := by simpa using hru
      clear hru
      go_wp2_with (first | (at_mapUpdate; refine wpList_put rfl (.tmp 47) (.tmp 48) (.tmp 49) 60 9 rfl Ybaf.underlying60 (B + 5 + 3 * j) keyS _ keyFam k (.string (fromOf (some i))) rfl rfl rfl hom hk ?_; intro w4 hm4 hg4; have C4 := C3.turnOw hg4 hm4; have hD4 := cell_grown hg4 hD3 (show D ≠ B + 5 + 3 * j by omega); have ho5 := C4.o; have hos5 := C4.owners) | (at_mapUpdate; refine wpList_put rfl (.tmp 67) (.tmp 68) (.tmp 69) 24 58 rfl Ybaf.underlying24 (B + 1) keyS _ keyFam k (brk B j) rfl rfl rfl hos5 hk ?_; intro w6 hm6 hg6; have C6 := C4.turnOwners hg6 hm6; have he6 := C6.e; have F6 := (F3.grown hg4 (fun b hb => by cases hb; exact .inl (.inr (by omega)))).grown hg6 (fun b hb => by cases hb; exact .inl (.inl rfl))))
      refine (assigned (B + 3) D n base v xs (keyS k) (fromOf (some i)) (nameS j) ru _ (F6.cell HE.out not_turned3) ((F6.frozen (World.block_lt_of_cell? _ _ HE.out) not_turned3).trans HZ.out) (F6.cell hd0 (not_turned hD)) (F6.cell hd1 (not_turned hD)) (F6.owns HO.out (fun b hb => not_turned (Nat.le_trans hB hb))) hn (Nat.le_trans hbase F6.size) (own_ne HO.out (by omega))).mono ?_
      rintro e w7 ⟨rfl, hL⟩
      have hfin := logged_of F6 hL
      have hcore := logged_core (assign_core_no C6 hru') HO.out hB hL
      clear hL F6 C6 he6
      go_wp2
      go_ret
      exact ⟨rfl, hcore, hfin⟩
end Go.Proofs.YbulkchjmFmt
