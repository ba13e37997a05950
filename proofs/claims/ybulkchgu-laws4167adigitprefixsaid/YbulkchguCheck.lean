/-
  THE CONTRACTS of validParamName (function 6) and of the law's own model (function 7): each answers a bool that is true exactly where 'Valid s'.
-/
import Derived.Test.YbulkchguRows
import Derived.WalkKit
import Derived.WalkSpells
import Derived.WalkLawsBesides
namespace Go.Proofs.Ybulkchgu
open Go.RowKit

/-- The byte c may stand at place i. -/
def Ok (i : Nat) (c : Int) : Prop := c = 95 ∨ (65 ≤ c ∧ c ≤ 90) ∨ (97 ≤ c ∧ c ≤ 122) ∨ (0 < i ∧ 48 ≤ c ∧ c ≤ 57)
def Valid (s : ByteArray) : Prop := 0 < s.size ∧ ∀ i (h : i < s.size), Ok i (s[i]'h).toNat

theorem regions (c : Int) : (c < 48) ∨ (48 ≤ c ∧ c ≤ 57) ∨ (57 < c ∧ c < 65) ∨ (65 ≤ c ∧ c ≤ 90) ∨ (90 < c ∧ c < 95) ∨ (c = 95) ∨ (c = 96) ∨ (97 ≤ c ∧ c ≤ 122) ∨ (122 < c) := by omega

theorem facts0 {c : Int} (h : c < 48) : (c == 95) = false ∧ decide ((65 : Int) ≤ c) = false ∧ decide (c ≤ 90) = true ∧ decide ((97 : Int) ≤ c) = false ∧ decide (c ≤ 122) = true ∧ decide ((48 : Int) ≤ c) = false ∧ decide (c ≤ 57) = true := by
  refine ⟨?_, ?_, ?_, ?_, ?_, ?_, ?_⟩ <;> simp <;> omega

theorem facts1 {c : Int} (h : 48 ≤ c ∧ c ≤ 57) : (c == 95) = false ∧ decide ((65 : Int) ≤ c) = false ∧ decide (c ≤ 90) = true ∧ decide ((97 : Int) ≤ c) = false ∧ decide (c ≤ 122) = true ∧ decide ((48 : Int) ≤ c) = true ∧ decide (c ≤ 57) = true := by
  refine ⟨?_, ?_, ?_, ?_, ?_, ?_, ?_⟩ <;> simp <;> omega

theorem facts2 {c : Int} (h : 57 < c ∧ c < 65) : (c == 95) = false ∧ decide ((65 : Int) ≤ c) = false ∧ decide (c ≤ 90) = true ∧ decide ((97 : Int) ≤ c) = false ∧ decide (c ≤ 122) = true ∧ decide ((48 : Int) ≤ c) = true ∧ decide (c ≤ 57) = false := by
  refine ⟨?_, ?_, ?_, ?_, ?_, ?_, ?_⟩ <;> simp <;> omega

theorem facts3 {c : Int} (h : 65 ≤ c ∧ c ≤ 90) : (c == 95) = false ∧ decide ((65 : Int) ≤ c) = true ∧ decide (c ≤ 90) = true ∧ decide ((97 : Int) ≤ c) = false ∧ decide (c ≤ 122) = true ∧ decide ((48 : Int) ≤ c) = true ∧ decide (c ≤ 57) = false := by
  refine ⟨?_, ?_, ?_, ?_, ?_, ?_, ?_⟩ <;> simp <;> omega

theorem facts4 {c : Int} (h : 90 < c ∧ c < 95) : (c == 95) = false ∧ decide ((65 : Int) ≤ c) = true ∧ decide (c ≤ 90) = false ∧ decide ((97 : Int) ≤ c) = false ∧ decide (c ≤ 122) = true ∧ decide ((48 : Int) ≤ c) = true ∧ decide (c ≤ 57) = false := by
  refine ⟨?_, ?_, ?_, ?_, ?_, ?_, ?_⟩ <;> simp <;> omega

theorem facts5 {c : Int} (h : c = 95) : (c == 95) = true ∧ decide ((65 : Int) ≤ c) = true ∧ decide (c ≤ 90) = false ∧ decide ((97 : Int) ≤ c) = false ∧ decide (c ≤ 122) = true ∧ decide ((48 : Int) ≤ c) = true ∧ decide (c ≤ 57) = false := by
  refine ⟨?_, ?_, ?_, ?_, ?_, ?_, ?_⟩ <;> simp <;> omega

theorem facts6 {c : Int} (h : c = 96) : (c == 95) = false ∧ decide ((65 : Int) ≤ c) = true ∧ decide (c ≤ 90) = false ∧ decide ((97 : Int) ≤ c) = false ∧ decide (c ≤ 122) = true ∧ decide ((48 : Int) ≤ c) = true ∧ decide (c ≤ 57) = false := by
  refine ⟨?_, ?_, ?_, ?_, ?_, ?_, ?_⟩ <;> simp <;> omega

theorem facts7 {c : Int} (h : 97 ≤ c ∧ c ≤ 122) : (c == 95) = false ∧ decide ((65 : Int) ≤ c) = true ∧ decide (c ≤ 90) = false ∧ decide ((97 : Int) ≤ c) = true ∧ decide (c ≤ 122) = true ∧ decide ((48 : Int) ≤ c) = true ∧ decide (c ≤ 57) = false := by
  refine ⟨?_, ?_, ?_, ?_, ?_, ?_, ?_⟩ <;> simp <;> omega

theorem facts8 {c : Int} (h : 122 < c) : (c == 95) = false ∧ decide ((65 : Int) ≤ c) = true ∧ decide (c ≤ 90) = false ∧ decide ((97 : Int) ≤ c) = true ∧ decide (c ≤ 122) = false ∧ decide ((48 : Int) ≤ c) = true ∧ decide (c ≤ 57) = false := by
  refine ⟨?_, ?_, ?_, ?_, ?_, ?_, ?_⟩ <;> simp <;> omega

theorem size_toList (s : ByteArray) : s.size = s.toList.length := by rw [ByteArray.toList_eq]; rfl

theorem width_pos (s : ByteArray) (pos : Nat) (h : pos < s.size) : 1 ≤ (Utf8.decode s pos).2 := by
  by_cases ha : (s[pos]'h).toNat < 128
  · rw [decode_ascii s pos h ha]
    exact Nat.le_refl _
  · exact (decode_high s pos h (by omega)).2

/-- All bytes ahead of place k may stand where they stand. -/
def Fits (s : ByteArray) (k : Nat) : Prop := ∀ i (h : i < s.size), i < k → Ok i (s[i]'h).toNat

/-- The answer of both functions. -/
def Answers (s : ByteArray) (e : Ending) : Prop := ∃ b : Bool, e = .returned (.bool b) ∧ (b = true ↔ Valid s)

theorem answers_false {s : ByteArray} {i : Nat} {c : Int} (h : i < s.size) (hc : c = ((s[i]'h).toNat : Int)) (hn : ¬ Ok i c) : Answers s (.returned (.bool false)) :=
  ⟨false, rfl, fun h => (by cases h), fun hv => by subst hc; exact absurd (hv.2 i h) hn⟩

theorem answers_empty {s : ByteArray} (h : ¬ 0 < s.size) : Answers s (.returned (.bool false)) :=
  ⟨false, rfl, fun h => (by cases h), fun hv => absurd hv.1 h⟩

theorem answers_true {s : ByteArray} (h : 0 < s.size) (hf : Fits s s.size) : Answers s (.returned (.bool true)) :=
  ⟨true, rfl, fun _ => ⟨h, fun i hi => hf i hi hi⟩, fun _ => rfl⟩

theorem fits_succ {s : ByteArray} {k : Nat} {c : Int} (h : k < s.size) (hs : Fits s k) (hc : c = ((s[k]'h).toNat : Int)) (hk : Ok k c) : Fits s (k + 1) := by
  intro i hi hik
  by_cases e : i = k
  · subst e; subst hc; exact hk
  · exact hs i hi (by omega)

set_option maxRecDepth 1000000 in
set_option maxHeartbeats 2000000 in
theorem valid_any (s : ByteArray) (w : World) :
    Calls Yba.prog 6 #[.string s] w fun e w' => Answers s e ∧ ∃ pos, w' = w.iter s pos := by
  go_enter Yba.func6, Yba.ntmps6
  go_wp2
  go_loopw [] (fun w' => ∃ pos : Nat, pos ≤ s.size ∧ w' = w.iter s pos ∧ Hid (Fits s pos)) (fun w' => s.size - w'.iterPos w.heap.size)
  case atStart => exact ⟨0, Nat.zero_le _, rfl, fun i h h0 => absurd h0 (by omega)⟩
  case round =>
    obtain ⟨pos, hle, rfl, HV⟩ := hrel
    by_cases hp : pos < s.size
    · by_cases ha : (s[pos]'hp).toNat < 128
      · have hnx : ∀ ty, (Instr.next (.pointer (some ⟨w.heap.size, 0, none⟩)) true ty).run Yba.prog (w.iter s pos) = _ := fun ty => run_next_ascii w s pos ty hp ha
        obtain ⟨c, hc⟩ : ∃ c : Int, c = ((s[pos]'hp).toNat : Int) := ⟨_, rfl⟩
        rw [← hc] at hnx
        have HC : Hid (c = ((s[pos]'hp).toNat : Int)) := hc
        clear hc ha
        rcases regions c with h | h | h | h | h | h | h | h | h
        · obtain ⟨f1, f2, f3, f4, f5, f6, f7⟩ := facts0 h
          have HO : Hid (¬ Ok pos c) := by unfold Ok Hid; omega
          clear h
          go_wp2
          all_goals go_ret
          all_goals exact ⟨answers_false hp HC.out HO.out, _, rfl⟩
        · by_cases h0 : 0 < pos
          · have f8 : decide ((0 : Int) < (pos : Int)) = true := by simpa using h0
            obtain ⟨f1, f2, f3, f4, f5, f6, f7⟩ := facts1 h
            have HO : Hid (Ok pos c) := .inr (.inr (.inr ⟨h0, h⟩))
            clear h
            go_wp2
            go_roundw
            case rel => exact ⟨pos + 1, by omega, rfl, fits_succ hp HV.out HC.out HO.out⟩
            case measure => simp; omega
          · have f8 : decide ((0 : Int) < (pos : Int)) = false := by simpa using h0
            obtain ⟨f1, f2, f3, f4, f5, f6, f7⟩ := facts1 h
            have HO : Hid (¬ Ok pos c) := by unfold Ok Hid; omega
            clear h
            go_wp2
            all_goals go_ret
            all_goals exact ⟨answers_false hp HC.out HO.out, _, rfl⟩
        · obtain ⟨f1, f2, f3, f4, f5, f6, f7⟩ := facts2 h
          have HO : Hid (¬ Ok pos c) := by unfold Ok Hid; omega
          clear h
          go_wp2
          all_goals go_ret
          all_goals exact ⟨answers_false hp HC.out HO.out, _, rfl⟩
        · obtain ⟨f1, f2, f3, f4, f5, f6, f7⟩ := facts3 h
          have HO : Hid (Ok pos c) := by unfold Ok Hid; omega
          clear h
          go_wp2
          go_roundw
          case rel => exact ⟨pos + 1, by omega, rfl, fits_succ hp HV.out HC.out HO.out⟩
          case measure => simp; omega
        · obtain ⟨f1, f2, f3, f4, f5, f6, f7⟩ := facts4 h
          have HO : Hid (¬ Ok pos c) := by unfold Ok Hid; omega
          clear h
          go_wp2
          all_goals go_ret
          all_goals exact ⟨answers_false hp HC.out HO.out, _, rfl⟩
        · obtain ⟨f1, f2, f3, f4, f5, f6, f7⟩ := facts5 h
          have HO : Hid (Ok pos c) := by unfold Ok Hid; omega
          clear h
          go_wp2
          go_roundw
          case rel => exact ⟨pos + 1, by omega, rfl, fits_succ hp HV.out HC.out HO.out⟩
          case measure => simp; omega
        · obtain ⟨f1, f2, f3, f4, f5, f6, f7⟩ := facts6 h
          have HO : Hid (¬ Ok pos c) := by unfold Ok Hid; omega
          clear h
          go_wp2
          all_goals go_ret
          all_goals exact ⟨answers_false hp HC.out HO.out, _, rfl⟩
        · obtain ⟨f1, f2, f3, f4, f5, f6, f7⟩ := facts7 h
          have HO : Hid (Ok pos c) := by unfold Ok Hid; omega
          clear h
          go_wp2
          go_roundw
          case rel => exact ⟨pos + 1, by omega, rfl, fits_succ hp HV.out HC.out HO.out⟩
          case measure => simp; omega
        · obtain ⟨f1, f2, f3, f4, f5, f6, f7⟩ := facts8 h
          have HO : Hid (¬ Ok pos c) := by unfold Ok Hid; omega
          clear h
          go_wp2
          all_goals go_ret
          all_goals exact ⟨answers_false hp HC.out HO.out, _, rfl⟩
      · have hnx : ∀ ty, (Instr.next (.pointer (some ⟨w.heap.size, 0, none⟩)) true ty).run Yba.prog (w.iter s pos) = _ := fun ty => run_next_any w s pos ty hp
        have hd := (decode_high s pos hp (by omega)).1
        obtain ⟨c, hc⟩ : ∃ c : Int, c = ((Utf8.decode s pos).1 : Int) := ⟨_, rfl⟩
        rw [← hc] at hnx
        obtain ⟨f1, f2, f3, f4, f5, f6, f7⟩ := facts8 (show 122 < c by omega)
        have HO : Hid (¬ Ok pos ((s[pos]'hp).toNat : Int)) := by unfold Ok Hid; omega
        clear hc hd ha
        go_wp2
        all_goals go_ret
        all_goals exact ⟨answers_false hp rfl HO.out, _, rfl⟩
    · have hnx : ∀ ty, (Instr.next (.pointer (some ⟨w.heap.size, 0, none⟩)) true ty).run Yba.prog (w.iter s pos) = _ := fun ty => run_next_end w s pos ty hp
      have hps : pos = s.size := by omega
      have HF : Hid (Fits s s.size) := hps ▸ HV
      clear HV hps
      by_cases h0 : 0 < s.size
      · have hem : s.toList.isEmpty = false := by rw [size_toList] at h0; cases h : s.toList with | nil => simp [h] at h0 | cons => rfl
        go_wp2
        go_ret
        exact ⟨answers_true h0 HF.out, _, rfl⟩
      · have hem : s.toList.isEmpty = true := by rw [size_toList] at h0; cases h : s.toList with | nil => rfl | cons => simp [h] at h0
        go_wp2
        go_ret
        exact ⟨answers_empty h0, _, rfl⟩

set_option maxRecDepth 1000000 in
set_option maxHeartbeats 2000000 in
theorem model_any (s : ByteArray) (w : World) (hs : s.size ≤ maxLen) :
    Calls Yba.prog 7 #[.string s] w fun e w' => Answers s e ∧ w' = w := by
  unfold maxLen at hs
  by_cases h0 : 0 < s.size
  case neg =>
    have hz : ((s.size : Int) == 0) = true := beq_iff_eq.2 (by omega)
    go_enter Yba.func7, Yba.ntmps7
    go_wp2
    go_ret
    exact ⟨answers_empty h0, rfl⟩
  have hz : ((s.size : Int) == 0) = false := beq_eq_false_iff_ne.2 (by omega)
  go_enter Yba.func7, Yba.ntmps7
  go_wp2
  go_loop [3] (fun i => ∃ pos : Nat, pos ≤ s.size ∧ i = .int .i64 pos ∧ Hid (Fits s pos)) (fun i => s.size - (intOf i).toNat)
  case atStart => exact ⟨0, Nat.zero_le _, rfl, fun i h h0 => absurd h0 (by omega)⟩
  case round =>
    obtain ⟨pos, hle, rfl, HV⟩ := hrel
    by_cases hp : pos < s.size
    · obtain ⟨c, hc⟩ : ∃ c : Int, c = ((s[pos]'hp).toNat : Int) := ⟨_, rfl⟩
      have hc2 : ((s[pos]'hp).toNat : Int) = c := hc.symm
      have HC : Hid (c = ((s[pos]'hp).toNat : Int)) := hc
      clear hc
      rcases regions c with h | h | h | h | h | h | h | h | h
      · obtain ⟨f1, f2, f3, f4, f5, f6, f7⟩ := facts0 h
        have HO : Hid (¬ Ok pos c) := by unfold Ok Hid; omega
        clear h
        go_wp2
        all_goals go_ret
        all_goals exact ⟨answers_false hp HC.out HO.out, rfl⟩
      · by_cases h0 : 0 < pos
        · have f8 : decide ((0 : Int) < (pos : Int)) = true := by simpa using h0
          obtain ⟨f1, f2, f3, f4, f5, f6, f7⟩ := facts1 h
          have HO : Hid (Ok pos c) := .inr (.inr (.inr ⟨h0, h⟩))
          clear h
          go_wp2
          go_round
          case rel => exact ⟨pos + 1, by omega, by go_num, fits_succ hp HV.out HC.out HO.out⟩
          case measure => simp [intOf]; omega
        · have f8 : decide ((0 : Int) < (pos : Int)) = false := by simpa using h0
          obtain ⟨f1, f2, f3, f4, f5, f6, f7⟩ := facts1 h
          have HO : Hid (¬ Ok pos c) := by unfold Ok Hid; omega
          clear h
          go_wp2
          all_goals go_ret
          all_goals exact ⟨answers_false hp HC.out HO.out, rfl⟩
      · obtain ⟨f1, f2, f3, f4, f5, f6, f7⟩ := facts2 h
        have HO : Hid (¬ Ok pos c) := by unfold Ok Hid; omega
        clear h
        go_wp2
        all_goals go_ret
        all_goals exact ⟨answers_false hp HC.out HO.out, rfl⟩
      · obtain ⟨f1, f2, f3, f4, f5, f6, f7⟩ := facts3 h
        have HO : Hid (Ok pos c) := by unfold Ok Hid; omega
        clear h
        go_wp2
        go_round
        case rel => exact ⟨pos + 1, by omega, by go_num, fits_succ hp HV.out HC.out HO.out⟩
        case measure => simp [intOf]; omega
      · obtain ⟨f1, f2, f3, f4, f5, f6, f7⟩ := facts4 h
        have HO : Hid (¬ Ok pos c) := by unfold Ok Hid; omega
        clear h
        go_wp2
        all_goals go_ret
        all_goals exact ⟨answers_false hp HC.out HO.out, rfl⟩
      · obtain ⟨f1, f2, f3, f4, f5, f6, f7⟩ := facts5 h
        have HO : Hid (Ok pos c) := by unfold Ok Hid; omega
        clear h
        go_wp2
        go_round
        case rel => exact ⟨pos + 1, by omega, by go_num, fits_succ hp HV.out HC.out HO.out⟩
        case measure => simp [intOf]; omega
      · obtain ⟨f1, f2, f3, f4, f5, f6, f7⟩ := facts6 h
        have HO : Hid (¬ Ok pos c) := by unfold Ok Hid; omega
        clear h
        go_wp2
        all_goals go_ret
        all_goals exact ⟨answers_false hp HC.out HO.out, rfl⟩
      · obtain ⟨f1, f2, f3, f4, f5, f6, f7⟩ := facts7 h
        have HO : Hid (Ok pos c) := by unfold Ok Hid; omega
        clear h
        go_wp2
        go_round
        case rel => exact ⟨pos + 1, by omega, by go_num, fits_succ hp HV.out HC.out HO.out⟩
        case measure => simp [intOf]; omega
      · obtain ⟨f1, f2, f3, f4, f5, f6, f7⟩ := facts8 h
        have HO : Hid (¬ Ok pos c) := by unfold Ok Hid; omega
        clear h
        go_wp2
        all_goals go_ret
        all_goals exact ⟨answers_false hp HC.out HO.out, rfl⟩
    · have hps : pos = s.size := by omega
      have HF : Hid (Fits s s.size) := hps ▸ HV
      clear HV
      go_wp2
      go_ret
      exact ⟨answers_true h0 HF.out, rfl⟩
end Go.Proofs.Ybulkchgu
