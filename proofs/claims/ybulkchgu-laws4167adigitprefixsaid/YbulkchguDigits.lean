/-
  'Rows.LawS4167ADigitPrefixSaid': the walk, and the row (the shell's frame).
-/
import Derived.Test.YbulkchguCheck
import Derived.ProofKit
import Derived.OpenShut
import Derived.ShutString
import Derived.ChangeOld
import Derived.Below
import Derived.Laws.BytesArg
namespace Go.Proofs.Ybulkchgu
open Go.RowKit Go.ChangeShapes Go.ChangeAt Go.WideShapes

theorem info5 : (Yba.prog.info? 5).map (fun i => (i.zero, i.size, i.bytes)) = some (some (.int .u8 0), 1, 1) := by kernel_rfl

/-- 'string(b)', b a row of bytes that the call itself made. -/
theorem conv_own {w : World} {base g n cap : Nat} {xs : List Int} (hn : xs.length = n) (h : w.ownsRow base 5 1 (.slice (some ⟨g, 0, none⟩) n cap) n (xs.map (Value.int .u8))) :
    (convert 23 9 (.slice (some ⟨g, 0, none⟩) n cap)).run Yba.prog w = .ok (.string (strOfNums xs)) w := by
  refine run_convert_bytes_arg w 23 5 Yba.underlying23 Yba.underlying5 g 0 n cap xs hn ?_ 9 Yba.underlying9
  intro i hi
  have h1 := h.cellAt i (by omega)
  rw [Nat.zero_add, h1]
  simp [List.getElem?_eq_getElem (show i < xs.length by omega)]

/-- What a slice of bytes that came in is to the walk: empty, or cells at a plain address. -/
def Came (w : World) (a : Option Addr) (len : Nat) (zs : List Int) : Prop :=
  len = 0 ∨ ∃ b off, a = some ⟨b, off, none⟩ ∧ len ≤ zs.length ∧ (∀ i, i < len → w.cell? ⟨b, off + i, none⟩ = some (.int .u8 (zs.getD i 0))) ∧ ∀ i, i < len → 0 ≤ zs.getD i 0 ∧ zs.getD i 0 ≤ 255

theorem Came.cell {w wr : World} {a : Option Addr} {len : Nat} {zs : List Int} (h : Came w a len zs) (hb : Below w.heap.size w wr) {k : Nat} (hk : k < len) :
    ∃ b off d, a = some ⟨b, off, none⟩ ∧ wr.cell? ⟨b, off + k, none⟩ = some (.int .u8 d) ∧ 0 ≤ d ∧ d ≤ 255 := by
  rcases h with h | ⟨b, off, ha, hl, hc, hd⟩
  · omega
  · have h1 := hc k hk
    exact ⟨b, off, _, ha, (hb.cell (World.block_lt_of_cell? _ _ h1)).trans h1, (hd k hk).1, (hd k hk).2⟩

theorem made_below {w w1 : World} (hgrow : w.grownBy w1 none) : Below w.heap.size w w1 := (Below.refl _ _).grown hgrow (Nat.le_refl _) (by intro k hk; cases hk)

/-- Out of what 'open_ints' gives. -/
theorem came_of {w : World} {x : Addr} {len cap : Nat} {zs : List Int} (hl : len ≤ cap) (hz : zs.length = cap) (hcell : ∀ i, i < zs.length → w.cell? (x.add i) = some (.int .u8 (zs.getD i 0))) (hwz : ∀ n ∈ zs, (Lit.int .u8 n).wf = true) : Came w (some x) len zs := by
  by_cases h0 : len = 0
  · exact .inl h0
  · obtain ⟨b, off, spot⟩ := x
    have hspot : spot = none := by simpa [Addr.add] using World.cell?_spot (hcell 0 (by omega))
    subst hspot
    refine .inr ⟨b, off, rfl, by omega, fun i hi => ?_, fun i hi => ?_⟩
    · rw [← add_plain]; exact hcell i (by omega)
    · have hm : zs.getD i 0 ∈ zs := by
        rw [List.getD_eq_getElem?_getD, List.getElem?_eq_getElem (by omega)]
        exact List.getElem_mem _
      exact bounds_u8 (hwz _ hm)

end Go.Proofs.Ybulkchgu
namespace Go.Proofs.Ybulkchgu.lawS4167ADigitPrefix
open Go.ChangeShapes Go.WideShapes Go.ChangeAt Go.RowKit
open Go.ChangeMaps (open_string shut_string)

theorem own : ownKnob Yba.prog.godebug = none := by kernel_rfl
theorem laidOut : laidOutB Yba.prog = true := by kernel_rfl

/-- Bytes that are digits. -/
def Digits (xs : List Int) : Prop := ∀ x ∈ xs, 48 ≤ x ∧ x ≤ 57

theorem get_nums (xs : List Int) (i : Nat) (h : i < (strOfNums xs).size) : ((strOfNums xs)[i]'h) = UInt8.ofNat ((xs[i]'(by simpa [strOfNums_size] using h)).toNat) := by
  show (strOfNums xs).data[i] = _
  simp [strOfNums]

theorem digit_byte {x : Int} (h : 48 ≤ x ∧ x ≤ 57) : ((UInt8.ofNat x.toNat).toNat : Int) = x := by
  have : x.toNat < 256 := by omega
  rw [UInt8.toNat_ofNat']
  omega

theorem bare_not {xs : List Int} (hd : Digits xs) : ¬ Valid (strOfNums xs) := by
  rintro ⟨h0, h⟩
  have h1 := h 0 h0
  rw [get_nums] at h1
  have hx := hd _ (List.getElem_mem (l := xs) (n := 0) (by simpa [strOfNums_size] using h0))
  rw [digit_byte hx] at h1
  unfold Ok at h1
  omega

theorem letter_valid {xs : List Int} (hd : Digits xs) : Valid ((⟨#[122]⟩ : ByteArray) ++ strOfNums xs) := by
  refine ⟨by rw [ByteArray.size_append]; exact Nat.lt_of_lt_of_le (by decide : 0 < (⟨#[122]⟩ : ByteArray).size) (Nat.le_add_right _ _), ?_⟩
  intro i h
  by_cases h0 : i < 1
  · obtain rfl : i = 0 := by omega
    rw [ByteArray.getElem_append_left (by decide)]
    unfold Ok
    right; right; left
    decide
  · have hs : (⟨#[122]⟩ : ByteArray).size = 1 := rfl
    have hsz : (strOfNums xs).size = xs.length := strOfNums_size xs
    rw [ByteArray.size_append, hs] at h
    rw [ByteArray.getElem_append_right (by rw [hs]; omega), get_nums]
    have hx := hd _ (List.getElem_mem (l := xs) (n := i - 1) (by omega))
    have e : xs[i - (⟨#[122]⟩ : ByteArray).size]'(by rw [hs]; omega) = xs[i - 1]'(by omega) := by simp [hs]
    rw [e, digit_byte hx]
    unfold Ok
    omega

theorem digits_snoc {xs : List Int} (h : Digits xs) {d : Int} : Digits (xs ++ [48 + d % 10]) := by
  intro x hx
  rcases List.mem_append.1 hx with hx | hx
  · exact h x hx
  · simp at hx
    omega

theorem true_of {s : ByteArray} {x : Bool} (h : x = true ↔ Valid s) (hv : Valid s) : x = true := h.2 hv
theorem false_of {s : ByteArray} {x : Bool} (h : x = true ↔ Valid s) (hv : ¬ Valid s) : x = false := by
  cases x with
  | false => rfl
  | true => exact absurd (h.1 rfl) hv

set_option maxHeartbeats 1000000 in
theorem walk (a0 : Option Addr) (len0 cap0 : Nat) (z0 : List Int) (w : World) (w0 : len0 ≤ 1024 → Came w a0 len0 z0) :
    Calls Yba.prog 5 #[.slice a0 len0 cap0] w fun e w' => e = .returned (.bool true) ∧ Below w.heap.size w w' := by
  by_cases hl : 1024 < len0
  · clear w0
    go_enter Yba.func5, Yba.ntmps5
    go_wp2
    go_ret
    exact ⟨rfl, Below.refl _ _⟩
  have HW : Hid (Came w a0 len0 z0) := w0 (by omega)
  have hl' : len0 ≤ 1024 := by omega
  clear hl w0
  obtain ⟨i0, hi, hz0, hz1, hz2⟩ := info_parts info5
  go_enter Yba.func5, Yba.ntmps5
  go_wp2_with (at_make; refine wpList_make_own _ rfl _ _ 23 rfl w.heap.size 5 i0 (.int .u8 0) 1 Yba.underlying23 hi hz0 hz1 _ _ _ (len0 + 1) rfl rfl (by omega) (by rw [hz2]; omega) (by unfold maxLen; omega) (Nat.le_refl _) ?_; intro w1 hown hgrow)
  have hb1 := made_below hgrow
  clear hgrow
  go_loopw [3, 17] (fun v i wr => ∃ (k : Nat) (xs : List Int), k ≤ len0 ∧ i = .int .i64 k ∧ v = .slice (some ⟨w.heap.size, 0, none⟩) k (len0 + 1) ∧ Hid (xs.length = k) ∧ Hid (Digits xs) ∧ wr.ownsRow w.heap.size 5 1 (.slice (some ⟨w.heap.size, 0, none⟩) k (len0 + 1)) k (xs.map (Value.int .u8)) ∧ Below w.heap.size w wr) (fun _ i _ => len0 - (intOf i).toNat)
  case atStart => exact ⟨0, [], Nat.zero_le _, rfl, rfl, rfl, (fun _ h => by cases h), hown, hb1⟩
  case round =>
    clear hown hb1
    obtain ⟨k, xs, hk, rfl, rfl, HL, HD, hown, hb⟩ := hrel
    by_cases hlt : k < len0
    · obtain ⟨b, off, d, rfl, hcell, hd0, hd1⟩ := HW.out.cell hb hlt
      have HX : Hid (Digits (xs ++ [48 + d % 10])) := digits_snoc HD.out
      go_wp2_with (at_builtin; refine wpList_append_fits _ rfl _ _ 23 rfl w.heap.size 5 i0 1 Yba.underlying23 hi hz1 w.heap.size k (len0 + 1) (xs.map (Value.int .u8)) rfl (hown.alloc _) ⟨wr.heap.size, 0, none⟩ 1 1 [.int .u8 (48 + d % 10)] rfl rfl (cell_one_new _ _ _) (ints_oneCell .u8 [48 + d % 10]) (by omega) ?_; intro w2 hown2 hgrow2)
      have hb2 : Below w.heap.size w w2 := (hb.alloc hb.size _).grown hgrow2 (by simp; have := hb.size; omega) (by intro j hj; cases hj; exact Nat.le_refl _)
      clear hgrow2 hown hb hcell
      go_roundw
      case rel => exact ⟨k + 1, xs ++ [48 + d % 10], by omega, by go_num, rfl, (show _ = _ by have := HL.out; simp; exact this), HX, by simpa using hown2, hb2⟩
      case measure => simp [intOf]; omega
    · have hkl : len0 = k := by omega
      subst hkl
      have hconv := conv_own HL.out hown
      have hS : (strOfNums xs).size = len0 := (strOfNums_size xs).trans HL.out
      have HV : Hid (Valid ((⟨#[122]⟩ : ByteArray) ++ strOfNums xs)) := letter_valid HD.out
      have HN : Hid (¬ Valid (strOfNums xs)) := bare_not HD.out
      clear hown HD HL
      generalize strOfNums xs = S at hconv hS HV HN
      have hz : (⟨#[122]⟩ : ByteArray).size = 1 := rfl
      go_wp2_with fail
      refine (valid_any _ _).mono ?_
      rintro e w' ⟨⟨x, rfl, hx⟩, pos, rfl⟩
      obtain rfl := true_of hx HV.out
      clear hx
      go_wp2_with fail
      refine (valid_any _ _).mono ?_
      rintro e w' ⟨⟨x, rfl, hx⟩, pos', rfl⟩
      obtain rfl := false_of hx HN.out
      clear hx
      go_wp2
      go_ret
      exact ⟨rfl, (hb.alloc hb.size _).alloc (Nat.le_trans hb.size (by simp)) _⟩

/-! ### THE ROW's STEP: WRITTEN OUT: LEAVE IT -/
set_option maxRecDepth 100000 in
theorem lifted (os : Os) (started : os.Started) (H : Type) (enc : TypeId × Value → H) :
    ReturnsInHanded {} Yba.checked os 5 .any (Rows.lawS4167ADigitPrefixSpec.pre6 enc Yba.prog Yba.f5 Rows.lawS4167ADigitPrefixRow.domain false) (Rows.lawS4167ADigitPrefixSpec.post enc Yba.prog Yba.f5 false true false false) := by
  refine returnsInHanded_of_change (C := Yba.checked) own started (by kernel_rfl) Yba.func5
    (ChangeSpec.witness6 (enc := enc) (C := Yba.checked) false ⟨#[], #[.slice none 0 0], []⟩ 8 (by kernel_rfl) (by kernel_rfl) (by kernel_rfl) (by kernel_rfl)) ?_
  intro W base args ds gs before hval0 hW hcnd _
  have hval : ∀ (j : Nat) t v, Yba.f5.params[j]? = some t → args[j]? = some v → Value.okWide Yba.prog W .any base t v := hval0
  have hW' := hW
  obtain ⟨p, q, hA0, hV, rfl, hfz, hnd⟩ := hW
  have hA : DataW.TrodAll enc Yba.prog W 0 (fun _ => true) true Yba.f5.params.toList args.toList ds p := hA0
  rw [Yba.params5] at hA hval
  obtain ⟨v0, vs0, d0, ds0, p0, q0, hargs, rfl, rfl, h0, r0⟩ := trodAll_cons hA
  obtain ⟨rfl, rfl, rfl⟩ := trodAll_nil r0
  obtain rfl : args = #[v0] := by cases args; simp_all
  obtain ⟨rfl, rfl⟩ := trodVars_none hV
  obtain ⟨a0, len0, cap0, rfl⟩ := okWide_slice Yba.underlying23 (hval 0 23 v0 rfl rfl)
  have k0 := h0
  have lt0 : ∀ x ∈ p0, x.block < W.heap.size := by obtain ⟨m, hm⟩ := k0; exact DataW.trod_lt m _ _ _ hm
  obtain ⟨z0, w0⟩ : ∃ zs, (len0 ≤ 1024 → Came W a0 len0 zs) := by
    obtain ⟨fuel, hf⟩ := h0
    rcases open_ints Yba.underlying23 Yba.underlying5 (by kernel_rfl) hf with ⟨hcs, _⟩ | ⟨x, l, c, zs, hcs, _, hl, hm, hz, _, hcell, hwz⟩
    · simp [Value.cells] at hcs
      obtain ⟨rfl, rfl, rfl⟩ := hcs
      exact ⟨[], fun _ => .inl rfl⟩
    · simp [Value.cells] at hcs
      obtain ⟨rfl, rfl, rfl⟩ := hcs
      exact ⟨zs, fun _ => came_of hl (by simpa using hz) hcell hwz⟩
  clear hA0 hval0
  refine (walk a0 len0 cap0 z0 W w0).mono fun e W' ⟨he, bel⟩ => ?_
  subst he
  exact ⟨_, rfl, _, _, _, [], _, [], hW', trodAll_mk1 (shut_bool Yba.underlying4 _), (trodAll_cons_mk (Below.trod laidOut (by kernel_rfl) (of_decide_eq_true (by kernel_rfl)) k0 bel lt0) trodAll_mk0), rfl, bel.frame _, fun h => by cases h⟩

theorem over : Rows.lawS4167ADigitPrefixRow.holds Yba.pinned (OpenSpec.ofChange Rows.lawS4167ADigitPrefixSpec) :=
  OpenClaim.holds_of_wide 5 Yba.f5 rfl rfl rfl rfl rfl rfl rfl ⟨rfl, rfl, rfl, rfl, rfl⟩ rfl rfl rfl rfl rfl (by kernel_rfl) Yba.func5 (by kernel_rfl)
    (of_decide_eq_true (by kernel_rfl)) (by unfold Func.isWrapper; first | (rw [if_pos (by decide +kernel)]; kernel_rfl) | (rw [if_neg (by decide +kernel)]; exact ⟨rfl, rfl⟩))
    (fun os started H enc _ => lifted os started H enc)

/-- THE STATEMENT -/
theorem proved : Rows.LawS4167ADigitPrefixSaid := over
#print axioms proved
end Go.Proofs.Ybulkchgu.lawS4167ADigitPrefix
