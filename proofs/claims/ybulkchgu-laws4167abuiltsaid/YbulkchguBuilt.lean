/-
  'Rows.LawS4167ABuiltSaid': the walk, and the row (the shell's frame).
-/
import Derived.Test.YbulkchguDigits
namespace Go.Proofs.Ybulkchgu.lawS4167ABuilt
open Go.ChangeShapes Go.WideShapes Go.ChangeAt Go.RowKit
open Go.ChangeMaps (open_string shut_string)

theorem own : ownKnob Yba.prog.godebug = none := by kernel_rfl
theorem laidOut : laidOutB Yba.prog = true := by kernel_rfl

theorem same {s : ByteArray} {x y : Bool} (hx : x = true ↔ Valid s) (hy : y = true ↔ Valid s) : x = y := by
  cases x <;> cases y <;> simp_all

set_option maxHeartbeats 1000000 in
theorem walk (a0 : Option Addr) (len0 cap0 : Nat) (z0 : List Int) (w : World) (w0 : len0 ≤ 1024 → Came w a0 len0 z0) :
    Calls Yba.prog 4 #[.slice a0 len0 cap0] w fun e w' => e = .returned (.bool true) ∧ Below w.heap.size w w' := by
  by_cases hl : 1024 < len0
  · clear w0
    go_enter Yba.func4, Yba.ntmps4
    go_wp2
    go_ret
    exact ⟨rfl, Below.refl _ _⟩
  have HW : Hid (Came w a0 len0 z0) := w0 (by omega)
  have hl' : len0 ≤ 1024 := by omega
  clear hl w0
  obtain ⟨i0, hi, hz0, hz1, hz2⟩ := info_parts info5
  go_enter Yba.func4, Yba.ntmps4
  go_wp2_with (at_make; refine wpList_make_own _ rfl _ _ 23 rfl w.heap.size 5 i0 (.int .u8 0) 1 Yba.underlying23 hi hz0 hz1 _ _ _ len0 rfl rfl (by omega) (by rw [hz2]; omega) (by unfold maxLen; omega) (Nat.le_refl _) ?_; intro w1 hown hgrow)
  have hb1 := made_below hgrow
  clear hgrow
  go_loopw [3, 15] (fun v i wr => ∃ (k : Nat) (xs : List Int), k ≤ len0 ∧ i = .int .i64 k ∧ v = .slice (some ⟨w.heap.size, 0, none⟩) k len0 ∧ Hid (xs.length = k) ∧ wr.ownsRow w.heap.size 5 1 (.slice (some ⟨w.heap.size, 0, none⟩) k len0) k (xs.map (Value.int .u8)) ∧ Below w.heap.size w wr) (fun _ i _ => len0 - (intOf i).toNat)
  case atStart => exact ⟨0, [], Nat.zero_le _, rfl, rfl, rfl, hown, hb1⟩
  case round =>
    clear hown hb1
    obtain ⟨k, xs, hk, rfl, rfl, HL, hown, hb⟩ := hrel
    by_cases hlt : k < len0
    · obtain ⟨b, off, d, rfl, hcell, hd0, hd1⟩ := HW.out.cell hb hlt
      have hm0 : 0 ≤ d % 10 := by omega
      have hm1 : d % 10 < 10 := by omega
      have hm2 : (d % 10).toNat < (⟨#[95, 97, 65, 122, 90, 48, 57, 109, 45, 123]⟩ : ByteArray).size := by
        have : (⟨#[95, 97, 65, 122, 90, 48, 57, 109, 45, 123]⟩ : ByteArray).size = 10 := rfl
        omega
      obtain ⟨u, hu⟩ : ∃ u : Int, (((⟨#[95, 97, 65, 122, 90, 48, 57, 109, 45, 123]⟩ : ByteArray)[(d % 10).toNat]'hm2).toNat : Int) = u := ⟨_, rfl⟩
      go_wp2_with (at_builtin; refine wpList_append_fits _ rfl _ _ 23 rfl w.heap.size 5 i0 1 Yba.underlying23 hi hz1 w.heap.size k len0 (xs.map (Value.int .u8)) rfl (hown.alloc _) ⟨wr.heap.size, 0, none⟩ 1 1 [.int .u8 u] rfl rfl (cell_one_new _ _ _) (ints_oneCell .u8 [u]) (by omega) ?_; intro w2 hown2 hgrow2)
      have hb2 : Below w.heap.size w w2 := (hb.alloc hb.size _).grown hgrow2 (by simp; have := hb.size; omega) (by intro j hj; cases hj; exact Nat.le_refl _)
      clear hgrow2 hown hb hcell
      go_roundw
      case rel => exact ⟨k + 1, xs ++ [u], by omega, by go_num, rfl, (show _ = _ by have := HL.out; simp; exact this), by simpa using hown2, hb2⟩
      case measure => simp [intOf]; omega
    · have hkl : len0 = k := by omega
      subst hkl
      have hconv := conv_own HL.out hown
      have hS : (strOfNums xs).size ≤ maxLen := by rw [strOfNums_size, HL.out]; unfold maxLen; omega
      clear hown HL
      generalize strOfNums xs = S at hconv hS
      go_wp2_with fail
      refine (valid_any _ _).mono ?_
      rintro e w' ⟨⟨x, rfl, hx⟩, pos, rfl⟩
      have HX : Hid (x = true ↔ Valid S) := hx
      clear hx
      go_wp2_with fail
      refine (model_any _ _ hS).mono ?_
      rintro e w' ⟨⟨y, rfl, hy⟩, rfl⟩
      obtain rfl := same HX.out hy
      clear hy HX
      go_wp2
      go_ret
      exact ⟨by simp, hb.alloc hb.size _⟩

/-! ### THE ROW's STEP: WRITTEN OUT: LEAVE IT -/
set_option maxRecDepth 100000 in
theorem lifted (os : Os) (started : os.Started) (H : Type) (enc : TypeId × Value → H) :
    ReturnsInHanded {} Yba.checked os 4 .any (Rows.lawS4167ABuiltSpec.pre6 enc Yba.prog Yba.f4 Rows.lawS4167ABuiltRow.domain false) (Rows.lawS4167ABuiltSpec.post enc Yba.prog Yba.f4 false true false false) := by
  refine returnsInHanded_of_change (C := Yba.checked) own started (by kernel_rfl) Yba.func4
    (ChangeSpec.witness6 (enc := enc) (C := Yba.checked) false ⟨#[], #[.slice none 0 0], []⟩ 8 (by kernel_rfl) (by kernel_rfl) (by kernel_rfl) (by kernel_rfl)) ?_
  intro W base args ds gs before hval0 hW hcnd _
  have hval : ∀ (j : Nat) t v, Yba.f4.params[j]? = some t → args[j]? = some v → Value.okWide Yba.prog W .any base t v := hval0
  have hW' := hW
  obtain ⟨p, q, hA0, hV, rfl, hfz, hnd⟩ := hW
  have hA : DataW.TrodAll enc Yba.prog W 0 (fun _ => true) true Yba.f4.params.toList args.toList ds p := hA0
  rw [Yba.params4] at hA hval
  obtain ⟨v0, vs0, d0, ds0, p0, q0, hargs, rfl, rfl, h0, r0⟩ := trodAll_cons hA
  obtain ⟨rfl, rfl, rfl⟩ := trodAll_nil r0
  obtain rfl : args = #[v0] := by cases args; simp_all
  obtain ⟨rfl, rfl⟩ := trodVars_none hV
  obtain ⟨a0, len0, cap0, rfl⟩ := okWide_slice Yba.underlying23 (hval 0 23 v0 rfl rfl)
  have k0 := h0
  have lt0 : ∀ x ∈ p0, x.block < W.heap.size := by obtain ⟨m, hm⟩ := k0; exact DataW.trod_lt m _ _ _ hm
  obtain ⟨z0, w0⟩ : ∃ zs, (len0 ≤ 1024 → Came W a0 len0 zs) := by
    obtain ⟨fuel, hf⟩ := h0
    rcases open_ints Yba.underlying23 Yba.underlying5 (by kernel_rfl) hf with ⟨hcs, _⟩ | ⟨x, l, c, zs, hcs, _, hl, hm, hz, _, hcell, hwz⟩
    · simp [Value.cells] at hcs
      obtain ⟨rfl, rfl, rfl⟩ := hcs
      exact ⟨[], fun _ => .inl rfl⟩
    · simp [Value.cells] at hcs
      obtain ⟨rfl, rfl, rfl⟩ := hcs
      exact ⟨zs, fun _ => came_of hl (by simpa using hz) hcell hwz⟩
  clear hA0 hval0
  refine (walk a0 len0 cap0 z0 W w0).mono fun e W' ⟨he, bel⟩ => ?_
  subst he
  exact ⟨_, rfl, _, _, _, [], _, [], hW', trodAll_mk1 (shut_bool Yba.underlying4 _), (trodAll_cons_mk (Below.trod laidOut (by kernel_rfl) (of_decide_eq_true (by kernel_rfl)) k0 bel lt0) trodAll_mk0), rfl, bel.frame _, fun h => by cases h⟩

theorem over : Rows.lawS4167ABuiltRow.holds Yba.pinned (OpenSpec.ofChange Rows.lawS4167ABuiltSpec) :=
  OpenClaim.holds_of_wide 4 Yba.f4 rfl rfl rfl rfl rfl rfl rfl ⟨rfl, rfl, rfl, rfl, rfl⟩ rfl rfl rfl rfl rfl (by kernel_rfl) Yba.func4 (by kernel_rfl)
    (of_decide_eq_true (by kernel_rfl)) (by unfold Func.isWrapper; first | (rw [if_pos (by decide +kernel)]; kernel_rfl) | (rw [if_neg (by decide +kernel)]; exact ⟨rfl, rfl⟩))
    (fun os started H enc _ => lifted os started H enc)

/-- THE STATEMENT -/
theorem proved : Rows.LawS4167ABuiltSaid := over
#print axioms proved
end Go.Proofs.Ybulkchgu.lawS4167ABuilt
