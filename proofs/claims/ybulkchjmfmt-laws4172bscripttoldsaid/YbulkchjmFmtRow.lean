/-
  'Rows.LawS4172BScriptToldSaid': the row over the walk, and the told card. (fmt is not come to on any way: without a ranking 'Update', which alone calls it, is not called.)
-/
import Derived.Test.YbulkchjmFmtMain
import Derived.Test.YbulkchjmFmtCards
import Derived.ProofKit
import Derived.ChangeSlices
import Derived.ChangeSame
import Derived.ChangeMaps5
import Derived.JoinedOf
import Derived.Carry
import Derived.OpenShut
import Derived.Stop.JoinedAt
import Derived.Stop.Texts
import Derived.Stop.JoinedTold
import Derived.SizedLaws
import Derived.SevenToldRow
import Derived.Deep.Strs
namespace Go.Proofs.YbulkchjmFmt
open Go.ChangeShapes Go.WideShapes Go.ChangeAt Go.RowKit Go.Kit
open Go.Extern.Stop Go.Stop Go.Extern

theorem own : ownKnob Ybaf.prog.godebug = none := by kernel_rfl
theorem laidOut : laidOutB Ybaf.prog = true := by kernel_rfl
theorem cells74 : Ybaf.prog.cellsOf 74 = 3 := by kernel_rfl
theorem cells5 : Ybaf.prog.cellsOf 5 = 1 := by kernel_rfl

theorem add_add {b off i c : Nat} : ((⟨b, off, none⟩ : Addr).add i).add c = ⟨b, off + i + c, none⟩ := by rw [add_plain, add_plain]

theorem three_of : ∀ {l : List Value}, l.length = 3 → ∃ a b c, l = [a, b, c]
  | [a, b, c], _ => ⟨a, b, c, rfl⟩

/-- The script's cells, out of its reading. -/
theorem steps_of {H : Type} {enc : TypeId × Value → H} {w : World} {base : Nat} {spare : Nat → Bool} {held : Bool} {fuel : Nat} {cs : List Value} {x : DataW H × List MemPlace}
    (h : DataW.trod enc Ybaf.prog w base spare held fuel 22 cs = some x) : ∃ a len cap, cs = [.slice a len cap] ∧ Steps w a len := by
  rcases DataW.trod_slice Ybaf.underlying22 h with ⟨rfl, _⟩ | ⟨a, len, cap, elems, rest, n, _, rfl, _, _, _, _, hlen, hel, _, _⟩
  · exact ⟨none, 0, 0, rfl, fun i hi => absurd hi (by omega)⟩
  · refine ⟨some a, len, cap, rfl, fun i hi => ?_⟩
    have each : ∀ i, i < len → ∃ x y z, w.cell? ((a.add (i * 3)).add 0) = some (.int .u8 x) ∧ w.cell? ((a.add (i * 3)).add 1) = some (.int .u8 y) ∧ w.cell? ((a.add (i * 3)).add 2) = some (.int .u8 z) ∧ 0 ≤ x ∧ x ≤ 255 ∧ 0 ≤ y ∧ y ≤ 255 ∧ 0 ≤ z ∧ z ≤ 255 := by
      intro i hi
      have h1 := hel i hi
      rw [cells74, List.getElem?_eq_getElem (by omega), Option.bind_eq_some_iff] at h1
      obtain ⟨cs', hcs, hy⟩ := h1
      obtain ⟨y0, y1, y2, m, _, _, t0, t1, t2⟩ := Deep.trod_struct3 Ybaf.underlying74 hy
      obtain ⟨_, hl3, hc⟩ := World.cells?_some hcs
      obtain ⟨c0, c1, c2, rfl⟩ := three_of hl3
      have t0' : DataW.trod enc Ybaf.prog w base spare held m 5 [c0] = some y0 := by simpa [cells5] using t0
      have t1' : DataW.trod enc Ybaf.prog w base spare held m 5 [c1] = some y1 := by simpa [cells5] using t1
      have t2' : DataW.trod enc Ybaf.prog w base spare held m 5 [c2] = some y2 := by simpa [cells5] using t2
      obtain ⟨x, e0, _, wx⟩ := DataW.trod_int Ybaf.underlying5 t0'
      obtain ⟨y, e1, _, wy⟩ := DataW.trod_int Ybaf.underlying5 t1'
      obtain ⟨z, e2, _, wz⟩ := DataW.trod_int Ybaf.underlying5 t2'
      simp only [List.cons.injEq, and_true] at e0 e1 e2
      subst e0 e1 e2
      have bx := bounds_u8 wx
      have b_y := bounds_u8 wy
      have bz := bounds_u8 wz
      exact ⟨x, y, z, hc 0 (by omega), hc 1 (by omega), hc 2 (by omega), bx.1, bx.2, b_y.1, b_y.2, bz.1, bz.2⟩
    obtain ⟨b, off, spot⟩ := a
    have hspot : spot = none := by
      obtain ⟨x, y, z, c0, _⟩ := each 0 (by omega)
      simpa [Addr.add] using World.cell?_spot c0
    subst hspot
    obtain ⟨x, y, z, c0, c1, c2, r⟩ := each i hi
    rw [add_add] at c0 c1 c2
    exact ⟨b, off, x, y, z, rfl, c0, c1, c2, r⟩

set_option maxRecDepth 100000 in
set_option maxHeartbeats 400000 in
theorem walk_long (a0 : Int) (ev : Bool) (a : Option Addr) (len cap : Nat) (w : World) (hlen : 1024 < len) :
    Calls Ybaf.prog 3 #[.int .u8 a0, .bool ev, .slice a len cap] w fun e w' => e = .returned (.bool true) ∧ Below w.heap.size w w' := by
  go_enter Ybaf.func3, Ybaf.ntmps3
  go_wp2
  go_ret
  exact ⟨rfl, Below.refl _ _⟩

set_option maxRecDepth 100000 in
theorem lifted (os : Os) (started : os.Started) (H : Type) (enc : TypeId × Value → H) :
    ReturnsInTold none {} Ybaf.checked os 3 .any Input.okWide ((OpenSpec.ofChange Rows.lawS4172BScriptSpec).preRow enc Ybaf.prog Ybaf.f3 [] false []) (fun F => ((OpenSpec.ofChange Rows.lawS4172BScriptSpec).at F).post enc Ybaf.prog Ybaf.f3 false true false false) (aloneAtReturn Ybaf.prog) nothingAlways := by
  refine returnsInTold_of_row (C := Ybaf.checked) (s := OpenSpec.ofChange Rows.lawS4172BScriptSpec) (by kernel_rfl) own started (by kernel_rfl) Ybaf.func3
    (OpenSpec.witness_stopped (enc := enc) (C := Ybaf.checked) false ⟨#[], #[.int .u8 0, .bool false, .slice none 0 0], []⟩ 8 (by kernel_rfl) (by kernel_rfl) (by kernel_rfl) (by kernel_rfl)) ?_
  intro F W base args ds gs before _ hF hval0 hW _ _ hsz _ _
  have hval : ∀ (j : Nat) t v, Ybaf.f3.params[j]? = some t → args[j]? = some v → Value.okWide Ybaf.prog W .any base t v := hval0
  have hW' := hW
  obtain ⟨p, q, hA0, hV, rfl, _, _⟩ := hW
  have hA : DataW.TrodAll enc Ybaf.prog W 0 (fun _ => true) true Ybaf.f3.params.toList args.toList ds p := hA0
  rw [Ybaf.params3] at hA hval
  obtain ⟨v0, vs0, d0, ds0, p0, q0, hargs, rfl, rfl, h0, r0⟩ := trodAll_cons hA
  obtain ⟨v1, vs1, d1, ds1, p1, q1, rfl, rfl, rfl, h1, r1⟩ := trodAll_cons r0
  obtain ⟨v2, vs2, d2, ds2, p2, q2, rfl, rfl, rfl, h2, r2⟩ := trodAll_cons r1
  obtain ⟨rfl, rfl, rfl⟩ := trodAll_nil r2
  obtain rfl : args = #[v0, v1, v2] := by cases args; simp_all
  obtain ⟨rfl, rfl⟩ := trodVars_none hV
  obtain ⟨a0, rfl, rfl, rfl, w0⟩ := open_int Ybaf.underlying5 (hval 0 5 v0 rfl rfl) h0
  obtain ⟨a1, rfl, rfl, rfl⟩ := open_bool Ybaf.underlying4 (hval 1 4 v1 rfl rfl) h1
  obtain ⟨a2, len, cap, rfl⟩ := okWide_slice Ybaf.underlying22 (hval 2 22 v2 rfl rfl)
  have k2 := h2
  have lt2 : ∀ x ∈ p2, x.block < W.heap.size := by obtain ⟨m, hm⟩ := k2; exact DataW.trod_lt m _ _ _ hm
  have hwalk : Calls Ybaf.prog 3 #[.int .u8 a0, .bool a1, .slice a2 len cap] W fun e w' => e = .returned (.bool true) ∧ Below W.heap.size W w' := by
    by_cases hl : 1024 < len
    · exact walk_long a0 a1 a2 len cap W hl
    · obtain ⟨fuel, hf⟩ := h2
      obtain ⟨a, l, c, hcs, hst⟩ := steps_of hf
      simp [Value.cells] at hcs
      obtain ⟨rfl, rfl, rfl⟩ := hcs
      have b0 := bounds_u8 w0
      exact main_walk a0 a1 a2 len cap W b0.1 b0.2 (by omega) hst
  clear hA0 hval0
  refine hwalk.mono fun e W' ⟨he, bel⟩ => ?_
  subst he
  exact ⟨_, rfl, _, _, _, [], _, [], hW', trodAll_mk1 (shut_bool Ybaf.underlying4 _), (trodAll_cons_mk (shut_int Ybaf.underlying5 w0) (trodAll_cons_mk (shut_bool Ybaf.underlying4 _) (trodAll_cons_mk (Below.trod laidOut (by kernel_rfl) (of_decide_eq_true (by kernel_rfl)) k2 bel lt2) trodAll_mk0))), rfl, bel.frame _, fun h => by cases h⟩

theorem stopsAre : Ybaf.pinned.checked.prog.stops = ["fmt.Sprintf"] := by kernel_rfl
theorem stopKnobsAre : Ybaf.pinned.checked.prog.stopKnobs = [] := by kernel_rfl
theorem quietAt (os : Os) : Stop.quiet Ybaf.pinned.checked.prog os := by
  intro k hk
  rw [stopKnobsAre] at hk
  cases hk

/-- THE STATEMENT -/
theorem proved : Rows.LawS4172BScriptToldSaid :=
  Claim7.holds_of_told_any 3 Ybaf.f3 "fmt.Sprintf" [] [] _ _ _ (by kernel_rfl) rfl rfl rfl (by kernel_rfl) (by kernel_rfl) rfl ⟨rfl, rfl, rfl, rfl, rfl, rfl, rfl⟩ rfl rfl (by kernel_rfl) (by kernel_rfl) Ybaf.func3 (by kernel_rfl)
    (of_decide_eq_true (by kernel_rfl)) (by unfold Func.isWrapper; first | (rw [if_pos (by decide +kernel)]; kernel_rfl) | (rw [if_neg (by decide +kernel)]; exact ⟨rfl, rfl⟩)) stopsAre.symm rfl stopKnobsAre.symm (by kernel_rfl)
    (by kernel_rfl) (by kernel_rfl) (by kernel_rfl) (by kernel_rfl) (by kernel_rfl) (by kernel_rfl) (by kernel_rfl) (by kernel_rfl) (by kernel_rfl) rfl (by kernel_rfl) rfl rfl
    rfl rfl
    rfl (by kernel_rfl) (by kernel_rfl) (by kernel_rfl) (by decide) (by kernel_rfl)
    (OpenClaim.moreEntering_of (by kernel_rfl) (by kernel_rfl) (by kernel_rfl) (by kernel_rfl) (by kernel_rfl) (by kernel_rfl) (by kernel_rfl) (by kernel_rfl) (by kernel_rfl) (by kernel_rfl))
    ⟨_, WideRow.started_initial, quietAt _⟩
    (fun os started _ H enc _ => lifted os started H enc)
#print axioms proved
end Go.Proofs.YbulkchjmFmt
