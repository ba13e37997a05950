/-
  'Rows.LawS4180ATwoReadsToldSaid': the row over the walk, and the card, told and tied.
-/
import Derived.Test.YbulkchnuFmtWit
import Derived.Test.YbulkchnuFmtCards
import Derived.Test.YbulkchnuFmtTie
import Derived.ChangeSlices
import Derived.ChangeSame
import Derived.ChangeMaps5
import Derived.JoinedOf
import Derived.Carry
import Derived.OpenShut
import Derived.OpenVars
import Derived.Stop.JoinedTold
import Derived.SizedLaws
import Derived.SevenTiedAt
namespace Go.Proofs.YbulkchnuFmt
open Go.ChangeShapes Go.WideShapes Go.ChangeAt Go.RowKit Go.Kit
open Go.Extern.Stop Go.Stop Go.Extern

theorem own : ownKnob Ybaf.prog.godebug = none := by kernel_rfl
theorem laidOut : laidOutB Ybaf.prog = true := by kernel_rfl
theorem cells5 : Ybaf.prog.cellsOf 5 = 1 := by kernel_rfl

/-- The data's cells, out of its reading. -/
theorem src_of {H : Type} {enc : TypeId × Value → H} {w : World} {base : Nat} {spare : Nat → Bool} {held : Bool} {fuel : Nat} {cs : List Value} {x : DataW H × List MemPlace}
    (h : DataW.trod enc Ybaf.prog w base spare held fuel 22 cs = some x) : ∃ a len cap z, cs = [.slice a len cap] ∧ z.length = len ∧ len ≤ cap ∧ (∀ j, 0 ≤ z.getD j 0 ∧ z.getD j 0 ≤ 255) ∧ Src w a len z w.heap.size := by
  rcases DataW.trod_slice Ybaf.underlying22 h with ⟨rfl, _⟩ | ⟨a, len, cap, elems, rest, n, _, rfl, _, _, hlc, _, hlen, hel, _, _⟩
  · exact ⟨none, 0, 0, [], rfl, rfl, Nat.le_refl _, fun j => by simp, .inl rfl⟩
  · have each : ∀ i, i < len → ∃ v : Int, w.cell? (a.add i) = some (.int .u8 v) ∧ 0 ≤ v ∧ v ≤ 255 := by
      intro i hi
      have h1 := hel i hi
      rw [cells5, Nat.mul_one, List.getElem?_eq_getElem (by omega), Option.bind_eq_some_iff] at h1
      obtain ⟨cs', hcs, hy⟩ := h1
      obtain ⟨v, rfl, _, wv⟩ := DataW.trod_int Ybaf.underlying5 hy
      obtain ⟨_, _, hc⟩ := World.cells?_some hcs
      have h0 := hc 0 (by omega)
      have bv := bounds_u8 wv
      refine ⟨v, ?_, bv.1, bv.2⟩
      simpa [Addr.add] using h0
    let f : Nat → Int := fun i => match w.cell? (a.add i) with | some (.int .u8 v) => v | _ => 0
    have hf : ∀ i, i < len → w.cell? (a.add i) = some (.int .u8 (f i)) ∧ 0 ≤ f i ∧ f i ≤ 255 := by
      intro i hi
      obtain ⟨v, hv, h0, h1⟩ := each i hi
      have e : f i = v := by show (match w.cell? (a.add i) with | some (.int .u8 v) => v | _ => 0) = v; rw [hv]
      rw [e]
      exact ⟨hv, h0, h1⟩
    have hg : ∀ j, j < len → ((List.range len).map f).getD j 0 = f j := fun j hj => by simp [List.getD, hj]
    refine ⟨some a, len, cap, (List.range len).map f, rfl, by simp, hlc, fun j => ?_, ?_⟩
    · by_cases hj : j < len
      · rw [hg j hj]
        exact (hf j hj).2
      · simp [List.getD, List.getElem?_eq_none (show (List.range len).length ≤ j by simpa using hj)]
    · rcases Nat.eq_zero_or_pos len with h0 | h0
      · exact .inl h0
      · obtain ⟨b, off, spot⟩ := a
        have hspot : spot = none := by simpa [Addr.add] using World.cell?_spot (hf 0 h0).1
        subst hspot
        refine .inr ⟨b, off, rfl, ?_, fun j hj => ?_⟩
        · exact World.block_lt_of_cell? _ _ (hf 0 h0).1
        · rw [hg j hj, ← add_plain]
          exact (hf j hj).1

set_option maxRecDepth 100000 in
theorem lifted (os : Os) (started : os.Started) (H : Type) (enc : TypeId × Value → H) :
    ReturnsInTold none {} Ybaf.checked os 3 .any Input.okWide ((OpenSpec.ofChange Rows.lawS4180ATwoReadsSpec).preRow enc Ybaf.prog Ybaf.f3 [] false Rows.lawS4180ATwoReadsRow.laid) (fun F => ((OpenSpec.ofChange Rows.lawS4180ATwoReadsSpec).at F).post enc Ybaf.prog Ybaf.f3 false true false false) (aloneAtReturn Ybaf.prog) nothingAlways := by
  refine returnsInTold_of_row (C := Ybaf.checked) (s := OpenSpec.ofChange Rows.lawS4180ATwoReadsSpec) (by kernel_rfl) own started (by kernel_rfl) Ybaf.func3 (witness os enc) ?_
  intro F W base args ds gs before _ hF hval0 hW _ _ _ hL _
  have hval : ∀ (j : Nat) t v, Ybaf.f3.params[j]? = some t → args[j]? = some v → Value.okWide Ybaf.prog W .any base t v := hval0
  have hW' := hW
  obtain ⟨p, q, hA0, hV, rfl, _, _⟩ := hW
  have hA : DataW.TrodAll enc Ybaf.prog W 0 (fun _ => true) true Ybaf.f3.params.toList args.toList ds p := hA0
  have hV' : DataW.TrodVars enc Ybaf.prog W (fun _ => true) ["example.com/holdfast/holdfast/internal/format.ErrMalformed", "example.com/holdfast/holdfast/internal/format.formats"] gs q := hV
  rw [Ybaf.params3] at hA hval
  obtain ⟨v0, vs0, d0, ds0, p0, q0, hargs, rfl, rfl, h0, r0⟩ := trodAll_cons hA
  obtain ⟨v1, vs1, d1, ds1, p1, q1, rfl, rfl, rfl, h1, r1⟩ := trodAll_cons r0
  obtain ⟨v2, vs2, d2, ds2, p2, q2, rfl, rfl, rfl, h2, r2⟩ := trodAll_cons r1
  obtain ⟨rfl, rfl, rfl⟩ := trodAll_nil r2
  obtain rfl : args = #[v0, v1, v2] := by cases args; simp_all
  obtain ⟨g0, t0, cs0, f0, e0, s0, g1, t1, cs1, f1, e1, s1, rfl, _⟩ := trodVars_two hV'
  obtain ⟨a0, len, cap, rfl⟩ := okWide_slice Ybaf.underlying22 (hval 0 22 v0 rfl rfl)
  obtain ⟨a1, rfl, rfl, rfl, w1⟩ := open_int Ybaf.underlying5 (hval 1 5 v1 rfl rfl) h1
  obtain ⟨a2, rfl, rfl, rfl, w2⟩ := open_int Ybaf.underlying5 (hval 2 5 v2 rfl rfl) h2
  have k0 := h0
  have lt0 : ∀ x ∈ p0, x.block < W.heap.size := by obtain ⟨m, hm⟩ := k0; exact DataW.trod_lt m _ _ _ hm
  have hwalk : Calls Ybaf.prog 3 #[.slice a0 len cap, .int .u8 a1, .int .u8 a2] W fun e w' => e = .returned (.bool true) ∧ Below W.heap.size W w' := by
    by_cases hl : 1024 < len
    · exact walk_long a0 len cap a1 a2 W hl
    · obtain ⟨fuel, hf⟩ := h0
      obtain ⟨a, l, c, z, hcs, hzl, hlc, hzb, hsrc⟩ := src_of hf
      simp [Value.cells] at hcs
      obtain ⟨rfl, rfl, rfl⟩ := hcs
      obtain ⟨g, hG⟩ := glob_of_laid (W := W) hL
      have b1 := bounds_u8 w1
      have b2 := bounds_u8 w2
      have hm := walk_main (F := F.told) a0 len cap z a1.toNat a2.toNat W hG hF hsrc (by omega) hzl hzb hlc (by omega) (by omega)
      rw [show (a1.toNat : Int) = a1 by omega, show (a2.toNat : Int) = a2 by omega] at hm
      exact hm
  clear hA0 hval0
  refine hwalk.mono fun e W' ⟨he, bel⟩ => ?_
  subst he
  exact ⟨_, rfl, _, _, _, [], _, _, hW', trodAll_mk1 (shut_bool Ybaf.underlying4 _), (trodAll_cons_mk (Below.trod laidOut (by kernel_rfl) (of_decide_eq_true (by kernel_rfl)) k0 bel lt0) (trodAll_cons_mk (shut_int Ybaf.underlying5 w1) (trodAll_cons_mk (shut_int Ybaf.underlying5 w2) trodAll_mk0))), Below.trodVars laidOut bel (by kernel_rfl) hV', bel.frame _, fun h => by cases h⟩

theorem stopsAre : Ybaf.pinned.checked.prog.stops = ["fmt.Sprintf", "fmt.errorf"] := by kernel_rfl
theorem stopKnobsAre : Ybaf.pinned.checked.prog.stopKnobs = [] := by kernel_rfl
theorem quietAt (os : Os) : Stop.quiet Ybaf.pinned.checked.prog os := by
  intro k hk
  rw [stopKnobsAre] at hk
  cases hk

/-- THE STATEMENT -/
theorem proved : Rows.LawS4180ATwoReadsToldSaid :=
  Claim7.holds_of_told_tied_any_at .later 3 Ybaf.f3 "fmt.Sprintf" ["fmt.errorf"] [] _ _ _ _ _ (by kernel_rfl) rfl rfl rfl (by kernel_rfl) (by kernel_rfl) rfl ⟨rfl, rfl, rfl, rfl, rfl, rfl, rfl⟩ rfl rfl (by kernel_rfl) (by kernel_rfl) Ybaf.func3 (by kernel_rfl)
    (of_decide_eq_true (by kernel_rfl)) (by unfold Func.isWrapper; first | (rw [if_pos (by decide +kernel)]; kernel_rfl) | (rw [if_neg (by decide +kernel)]; exact ⟨rfl, rfl⟩)) stopsAre.symm rfl stopKnobsAre.symm (by kernel_rfl)
    (by kernel_rfl) (by kernel_rfl) (by kernel_rfl) (by kernel_rfl) (by kernel_rfl) (by kernel_rfl) (by kernel_rfl) (by kernel_rfl) (by kernel_rfl) rfl (by kernel_rfl) rfl rfl
    rfl rfl
    rfl (by kernel_rfl) (by kernel_rfl) (by kernel_rfl) (by decide) (by kernel_rfl) lawS4180ATwoReads_row_tie
    (OpenClaim.moreEntering_of (by kernel_rfl) (by kernel_rfl) (by kernel_rfl) (by kernel_rfl) (by kernel_rfl) (by kernel_rfl) (by kernel_rfl) (by kernel_rfl) (by kernel_rfl) (by kernel_rfl))
    ⟨_, WideRow.started_initial, quietAt _⟩
    (fun os started _ H enc _ => lifted os started H enc)
#print axioms proved
end Go.Proofs.YbulkchnuFmt
