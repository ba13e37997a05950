/-
  'Rows.LawS4166AUnlistedSaid': the walk, and the row.
-/
import Derived.Test.YbulkchggWidth
import Derived.ProofKit
import Derived.OpenShut
import Derived.ShutString
import Derived.ChangeOld
import Derived.Below
namespace Go.Proofs.Ybulkchgg.lawS4166AUnlisted
open Go.ChangeShapes Go.WideShapes Go.ChangeAt Go.RowKit
open Go.ChangeMaps (open_string shut_string)

theorem own : ownKnob Yba.prog.godebug = none := by kernel_rfl
theorem info9 : (Yba.prog.info? 9).map (fun i => (i.zero, i.size, i.bytes)) = some (some (.string ByteArray.empty), 1, 16) := by kernel_rfl

set_option maxHeartbeats 400000 in
theorem walk (a0 : Bool) (a1 : Int) (w1 : (Lit.int .u8 a1).wf = true) (w : World) :
    Calls Yba.prog 4 #[.bool a0, .int .u8 a1] w fun e w' => e = .returned (.bool true) ∧ Below w.heap.size w w' := by
  have hb := bounds_u8 w1
  clear w1
  obtain ⟨i0, hi, hz0, hz1, hz2⟩ := info_parts info9
  obtain ⟨m, hm⟩ : ∃ m : Nat, a1 % 40 = (m : Int) := ⟨(a1 % 40).toNat, by omega⟩
  have hm40 : m < 40 := by omega
  go_enter Yba.func4, Yba.ntmps4
  go_wp2_with (at_make; refine wpList_make_full _ rfl _ _ 22 rfl w.heap.size 9 i0 (.string ByteArray.empty) 1 Yba.underlying22 hi hz0 hz1 _ _ _ _ m rfl rfl (by first | rfl | omega) (by first | rfl | omega) (by rw [hz2]; omega) (by unfold maxLen; omega) (Nat.le_refl _) ?_; intro w2 hown hgrow)
  have hbel : Below w.heap.size w w2 := (Below.refl _ _).grown hgrow (Nat.le_refl _) (by intro k hk; cases hk)
  have hsz : w.heap.size < w2.heap.size := by
    rcases hown.2 with ⟨h, _⟩ | ⟨g', cap', cur, h', _, hg, _⟩
    · cases h
    · simp at h'
      obtain ⟨rfl, rfl⟩ := h'
      by_cases hh : w.heap.size < w2.heap.size
      · exact hh
      · rw [Array.getElem?_eq_none (by omega)] at hg
        cases hg
  clear hm hgrow
  go_loopw [7] (fun i wr => ∃ k : Nat, k ≤ m ∧ i = .int .i64 k ∧ (∃ xs, wr.ownsRow w.heap.size 9 1 (.slice (some ⟨w.heap.size, 0, none⟩) m m) m xs) ∧ Below w.heap.size w wr ∧ w.heap.size < wr.heap.size) (fun i _ => m - (intOf i).toNat)
  case atStart => exact ⟨0, Nat.zero_le _, rfl, ⟨_, hown⟩, hbel, hsz⟩
  case round =>
    obtain ⟨k, hk, rfl, ⟨xs, hownr⟩, hbr, hszr⟩ := hrel
    by_cases hlt : k < m
    · have hst := (hownr.stored k (.string { data := #[97] })).1
      have hbs : Below w.heap.size w (wr.setCell ⟨w.heap.size, k, none⟩ (.string { data := #[97] })) := hbr.setCell (Nat.le_refl _) _
      have hlen := hownr.1
      have hcell := hownr.cellAt k (by omega)
      rw [List.getElem?_eq_getElem (by omega)] at hcell
      have hfr := hownr.frozenAt k
      generalize xs[k]'(by omega) = u at hcell
      have HX : Hid (∃ xs, (wr.setCell ⟨w.heap.size, k, none⟩ (.string { data := #[97] })).ownsRow w.heap.size 9 1 (.slice (some ⟨w.heap.size, 0, none⟩) m m) m xs) := ⟨_, hst⟩
      clear hst hownr hown hlen hbel hbr hsz
      go_wp2
      go_roundw
      case rel => exact ⟨k + 1, by omega, by go_num, HX.out, hbs, by simpa [World.setCell] using hszr⟩
      case measure => simp [intOf]; omega
    · have hkm : k = m := by omega
      subst hkm
      clear hown hownr hbel hsz
      have hfin : ∀ o, Below w.heap.size w (wr.alloc o) := fun o => hbr.alloc (by omega) o
      cases a0 with
      | false =>
        go_wp2_with fail
        refine (width_no wr.heap.size _ (by simp)).mono ?_
        rintro e w' ⟨rfl, rfl⟩
        go_wp2
        go_ret
        exact ⟨rfl, hfin _⟩
      | true =>
        by_cases hk0 : k = 0
        · subst hk0
          go_wp2_with fail
          refine (width_zero wr.heap.size 0 (some ⟨w.heap.size, 0, none⟩) _ (by simp) (by simp)).mono ?_
          rintro e w' ⟨rfl, rfl⟩
          go_wp2
          go_ret
          exact ⟨rfl, hfin _⟩
        · have hk1 : ((k : Int) == 0) = false := by simp; omega
          have hk2 : (1 : Int) ≤ (k : Int) := by omega
          go_wp2_with fail
          refine (width_yes wr.heap.size k k (some ⟨w.heap.size, 0, none⟩) _ hk1 (by simp) (by simp)).mono ?_
          rintro e w' ⟨rfl, rfl⟩
          go_wp2
          go_ret
          exact ⟨rfl, hfin _⟩

/-! ### THE ROW's STEP (the shell's own, its last row by 'Below') -/
set_option maxRecDepth 100000 in
theorem lifted (os : Os) (started : os.Started) (H : Type) (enc : TypeId × Value → H) :
    ReturnsInHanded {} Yba.checked os 4 .any (Rows.lawS4166AUnlistedSpec.pre6 enc Yba.prog Yba.f4 Rows.lawS4166AUnlistedRow.domain false) (Rows.lawS4166AUnlistedSpec.post enc Yba.prog Yba.f4 false true false false) := by
  refine returnsInHanded_of_change (C := Yba.checked) own started (by kernel_rfl) Yba.func4
    (ChangeSpec.witness6 (enc := enc) (C := Yba.checked) false ⟨#[], #[.bool false, .int .u8 0], []⟩ 8 (by kernel_rfl) (by kernel_rfl) (by kernel_rfl) (by kernel_rfl)) ?_
  intro W base args ds gs before hval0 hW hcnd _
  have hval : ∀ (j : Nat) t v, Yba.f4.params[j]? = some t → args[j]? = some v → Value.okWide Yba.prog W .any base t v := hval0
  have hW' := hW
  obtain ⟨p, q, hA0, hV, rfl, hfz, hnd⟩ := hW
  have hA : DataW.TrodAll enc Yba.prog W 0 (fun _ => true) true Yba.f4.params.toList args.toList ds p := hA0
  rw [Yba.params4] at hA hval
  obtain ⟨v0, vs0, d0, ds0, p0, q0, hargs, rfl, rfl, h0, r0⟩ := trodAll_cons hA
  obtain ⟨v1, vs1, d1, ds1, p1, q1, rfl, rfl, rfl, h1, r1⟩ := trodAll_cons r0
  obtain ⟨rfl, rfl, rfl⟩ := trodAll_nil r1
  obtain rfl : args = #[v0, v1] := by cases args; simp_all
  obtain ⟨rfl, rfl⟩ := trodVars_none hV
  obtain ⟨a0, rfl, rfl, rfl⟩ := open_bool Yba.underlying4 (hval 0 4 v0 rfl rfl) h0
  obtain ⟨a1, rfl, rfl, rfl, w1⟩ := open_int Yba.underlying5 (hval 1 5 v1 rfl rfl) h1
  clear hA0 hval0
  refine (walk a0 a1 w1 W).mono fun e W' ⟨he, bel⟩ => ?_
  subst he
  exact ⟨_, rfl, _, _, _, [], _, [], hW', trodAll_mk1 (shut_bool Yba.underlying4 _), (trodAll_cons_mk (shut_bool Yba.underlying4 _) (trodAll_cons_mk (shut_int Yba.underlying5 w1) trodAll_mk0)), rfl, bel.frame _, fun h => by cases h⟩

theorem over : Rows.lawS4166AUnlistedRow.holds Yba.pinned (OpenSpec.ofChange Rows.lawS4166AUnlistedSpec) :=
  OpenClaim.holds_of_wide 4 Yba.f4 rfl rfl rfl rfl rfl rfl rfl ⟨rfl, rfl, rfl, rfl, rfl⟩ rfl rfl rfl rfl rfl (by kernel_rfl) Yba.func4 (by kernel_rfl)
    (of_decide_eq_true (by kernel_rfl)) (by unfold Func.isWrapper; first | (rw [if_pos (by decide +kernel)]; kernel_rfl) | (rw [if_neg (by decide +kernel)]; exact ⟨rfl, rfl⟩))
    (fun os started H enc _ => lifted os started H enc)

/-- THE STATEMENT -/
theorem proved : Rows.LawS4166AUnlistedSaid := over
#print axioms proved
end Go.Proofs.Ybulkchgg.lawS4166AUnlisted
