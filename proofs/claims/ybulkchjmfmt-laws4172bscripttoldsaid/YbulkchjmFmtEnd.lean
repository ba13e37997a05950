/-
  LawS4172BScript: plain facts for the checks behind the script: counts, the logs' shape.
-/
import Derived.Test.YbulkchjmFmtMid
namespace Go.Proofs.YbulkchjmFmt
open Go.RowKit Go.Maps Go.WideMaps

/-- How many of the first k hold p. -/
def upTo (p : Nat → Bool) : Nat → Nat
  | 0 => 0
  | k + 1 => upTo p k + (if p k then 1 else 0)

theorem upTo_le (p : Nat → Bool) : ∀ k, upTo p k ≤ k
  | 0 => Nat.le_refl _
  | k + 1 => by have := upTo_le p k; unfold upTo; split <;> omega

theorem cnt_upTo (f : Nat → Option Value) : cnt f = upTo (fun k => (f k).isSome) 3 := by
  simp [cnt, upTo, one]

theorem cnt_names (B : Nat) {nb : Nat} (h1 : 1 ≤ nb) (h3 : nb ≤ 3) : cnt (fun i => if i < nb then some (brk B i) else none) = nb := by
  match nb, h1, h3 with
  | 1, _, _ | 2, _, _ | 3, _, _ => simp [cnt, one]

theorem cnt_owners (B : Nat) (own : Nat → Option Nat) : cnt (fun k => (own k).map (brk B)) = upTo (fun k => (own k).isSome) 3 := by
  rw [cnt_upTo]; simp

theorem cnt_ow (own : Nat → Option Nat) (lf : Nat → ByteArray) (i : Nat) : cnt (owOf own lf i) = upTo (fun k => decide (own k = some i)) 3 := by
  rw [cnt_upTo]
  congr 1
  funext k
  unfold owOf
  by_cases h : own k = some i <;> simp [h]

theorem cnt_pl (own : Nat → Option Nat) (pb : Nat → Bool) (i : Nat) : cnt (plOf own pb i) = upTo (fun k => decide (own k = some i) && pb k) 3 := by
  rw [cnt_upTo]
  congr 1
  funext k
  unfold plOf
  by_cases h : own k = some i <;> by_cases h' : pb k = true <;> simp [h, h']

theorem ownI_ne {o : Option Nat} {m : Nat} (h : o ≠ some m) : (ownI o == (m : Int)) = false := by
  refine beq_eq_false_iff_ne.2 fun e => h ?_
  cases o with
  | none => simp only [ownI] at e; omega
  | some i => simp only [ownI] at e; exact congrArg some (by omega)

/-- n calls in a row. -/
def Shape (n : Nat) (ys : List Value) : Prop :=
  ys.length = n * 5 ∧ ∀ i, i < n → ∃ bu fr br ru, ys[i * 5]? = some (.string bu) ∧ ys[i * 5 + 1]? = some (.string fr) ∧ ys[i * 5 + 2]? = some (.string br) ∧ ys[i * 5 + 3]? = some (.int .i64 ru) ∧ ys[i * 5 + 4]? = some (.bool false)

theorem shape_nil : Shape 0 [] := ⟨rfl, fun i hi => absurd hi (by omega)⟩

theorem shape_snoc {n : Nat} {ys : List Value} (h : Shape n ys) (bu fr br : ByteArray) (ru : Int) : Shape (n + 1) (ys ++ callCells bu fr br ru) := by
  obtain ⟨hl, hs⟩ := h
  refine ⟨by simp [callCells, hl]; omega, fun i hi => ?_⟩
  by_cases e : i = n
  · subst e
    refine ⟨bu, fr, br, ru, ?_, ?_, ?_, ?_, ?_⟩
    · rw [List.getElem?_append_right (by omega), show i * 5 - ys.length = 0 by omega]; rfl
    · rw [List.getElem?_append_right (by omega), show i * 5 + 1 - ys.length = 1 by omega]; rfl
    · rw [List.getElem?_append_right (by omega), show i * 5 + 2 - ys.length = 2 by omega]; rfl
    · rw [List.getElem?_append_right (by omega), show i * 5 + 3 - ys.length = 3 by omega]; rfl
    · rw [List.getElem?_append_right (by omega), show i * 5 + 4 - ys.length = 4 by omega]; rfl
  · obtain ⟨bu, fr, br, ru, h0, h1, h2, h3, h4⟩ := hs i (by omega)
    refine ⟨bu, fr, br, ru, ?_, ?_, ?_, ?_, ?_⟩ <;> rw [List.getElem?_append_left (by omega)] <;> assumption

/-- A log's value: its length; and its cells. -/
theorem row_form {w : World} {base n : Nat} {v : Value} {ys : List Value} (h : w.ownsRow base 81 5 v n ys) : ∃ a cap, v = .slice a n cap ∧ (0 < n → ∃ g, a = some ⟨g, 0, none⟩) := by
  rcases h.2 with ⟨rfl, rfl⟩ | ⟨g, cap, cur, rfl, _⟩
  · exact ⟨none, 0, rfl, fun h0 => absurd h0 (by omega)⟩
  · exact ⟨_, cap, rfl, fun _ => ⟨g, rfl⟩⟩

theorem row_cells {w : World} {base n g cap : Nat} {ys : List Value} (h : w.ownsRow base 81 5 (.slice (some ⟨g, 0, none⟩) n cap) n ys) {i : Nat} (hi : i < n) {c : Nat} (hc : c < 5) {v : Value} (hv : ys[i * 5 + c]? = some v) : w.cell? ⟨g, i * 5 + c, none⟩ = some v := by
  rw [h.cellAt (i * 5 + c) (by omega)]
  exact hv
end Go.Proofs.YbulkchjmFmt
