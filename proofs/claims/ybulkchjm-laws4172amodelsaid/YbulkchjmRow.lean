/-
  'Rows.LawS4172AModelSaid': the row over the walk.
-/
import Derived.Test.YbulkchjmMain
import Derived.ProofKit
import Derived.OpenShut
import Derived.ShutString
import Derived.ChangeOld
import Derived.ChangeSlices
import Derived.ChangeSame
import Derived.ChangeMaps5
import Derived.Below
import Derived.Deep.Strs
namespace Go.Proofs.Ybulkchjm
open Go.ChangeShapes Go.WideShapes Go.ChangeAt Go.RowKit

theorem own : ownKnob Yba.prog.godebug = none := by kernel_rfl
theorem laidOut : laidOutB Yba.prog = true := by kernel_rfl
theorem cells45 : Yba.prog.cellsOf 45 = 3 := by kernel_rfl
theorem cells43 : Yba.prog.cellsOf 43 = 1 := by kernel_rfl
theorem cells2 : Yba.prog.cellsOf 2 = 1 := by kernel_rfl

theorem add_add {b off i c : Nat} : ((⟨b, off, none⟩ : Addr).add i).add c = ⟨b, off + i + c, none⟩ := by rw [add_plain, add_plain]

theorem three_of : ∀ {l : List Value}, l.length = 3 → ∃ a b c, l = [a, b, c]
  | [a, b, c], _ => ⟨a, b, c, rfl⟩

/-- The script's cells, out of its reading. -/
theorem steps_of {H : Type} {enc : TypeId × Value → H} {w : World} {base : Nat} {spare : Nat → Bool} {held : Bool} {fuel : Nat} {cs : List Value} {x : DataW H × List MemPlace}
    (h : DataW.trod enc Yba.prog w base spare held fuel 22 cs = some x) : ∃ a len cap, cs = [.slice a len cap] ∧ Steps w a len := by
  rcases DataW.trod_slice Yba.underlying22 h with ⟨rfl, _⟩ | ⟨a, len, cap, elems, rest, n, _, rfl, _, _, _, _, hlen, hel, _, _⟩
  · exact ⟨none, 0, 0, rfl, fun i hi => absurd hi (by omega)⟩
  · refine ⟨some a, len, cap, rfl, fun i hi => ?_⟩
    have each : ∀ i, i < len → ∃ x y z, w.cell? ((a.add (i * 3)).add 0) = some (.int .i16 x) ∧ w.cell? ((a.add (i * 3)).add 1) = some (.int .i64 y) ∧ w.cell? ((a.add (i * 3)).add 2) = some (.int .i64 z) ∧ -32768 ≤ x ∧ x ≤ 32767 ∧ -9223372036854775808 ≤ y ∧ y ≤ 9223372036854775807 ∧ -9223372036854775808 ≤ z ∧ z ≤ 9223372036854775807 := by
      intro i hi
      have h1 := hel i hi
      rw [cells45, List.getElem?_eq_getElem (by omega), Option.bind_eq_some_iff] at h1
      obtain ⟨cs', hcs, hy⟩ := h1
      obtain ⟨y0, y1, y2, m, _, _, t0, t1, t2⟩ := Deep.trod_struct3 Yba.underlying45 hy
      obtain ⟨_, hl3, hc⟩ := World.cells?_some hcs
      obtain ⟨c0, c1, c2, rfl⟩ := three_of hl3
      have t0' : DataW.trod enc Yba.prog w base spare held m 43 [c0] = some y0 := by simpa [cells43] using t0
      have t1' : DataW.trod enc Yba.prog w base spare held m 2 [c1] = some y1 := by simpa [cells2] using t1
      have t2' : DataW.trod enc Yba.prog w base spare held m 2 [c2] = some y2 := by simpa [cells2] using t2
      obtain ⟨x, e0, _, wx⟩ := DataW.trod_int Yba.underlying43 t0'
      obtain ⟨y, e1, _, wy⟩ := DataW.trod_int Yba.underlying2 t1'
      obtain ⟨z, e2, _, wz⟩ := DataW.trod_int Yba.underlying2 t2'
      simp only [List.cons.injEq, and_true] at e0 e1 e2
      subst e0 e1 e2
      have bx := bounds_i16 wx
      have b_y := bounds_i64 wy
      have bz := bounds_i64 wz
      exact ⟨x, y, z, hc 0 (by omega), hc 1 (by omega), hc 2 (by omega), bx.1, bx.2, b_y.1, b_y.2, bz.1, bz.2⟩
    obtain ⟨b, off, spot⟩ := a
    have hspot : spot = none := by
      obtain ⟨x, y, z, c0, _⟩ := each 0 (by omega)
      simpa [Addr.add] using World.cell?_spot c0
    subst hspot
    obtain ⟨x, y, z, c0, c1, c2, r⟩ := each i hi
    rw [add_add] at c0 c1 c2
    exact ⟨b, off, x, y, z, rfl, c0, c1, c2, r⟩

set_option maxRecDepth 100000 in
theorem walk_long (qm qb pq : Int) (a : Option Addr) (len cap : Nat) (w : World) (hlen : 1024 < len) :
    Calls Yba.prog 3 #[.int .i64 qm, .int .i64 qb, .int .u8 pq, .slice a len cap] w fun e w' => e = .returned (.bool true) ∧ Below w.heap.size w w' := by
  go_enter Yba.func3, Yba.ntmps3
  go_wp2
  go_ret
  exact ⟨rfl, Below.refl _ _⟩

/-! ### THE ROW's STEP -/
set_option maxRecDepth 100000 in
theorem lifted (os : Os) (started : os.Started) (H : Type) (enc : TypeId × Value → H) :
    ReturnsInHanded {} Yba.checked os 3 .any (Rows.lawS4172AModelSpec.pre6 enc Yba.prog Yba.f3 Rows.lawS4172AModelRow.domain false) (Rows.lawS4172AModelSpec.post enc Yba.prog Yba.f3 false true false false) := by
  refine returnsInHanded_of_change (C := Yba.checked) own started (by kernel_rfl) Yba.func3
    (ChangeSpec.witness6 (enc := enc) (C := Yba.checked) false ⟨#[], #[.int .i64 0, .int .i64 0, .int .u8 0, .slice none 0 0], []⟩ 8 (by kernel_rfl) (by kernel_rfl) (by kernel_rfl) (by kernel_rfl)) ?_
  intro W base args ds gs before hval0 hW hcnd _
  have hval : ∀ (j : Nat) t v, Yba.f3.params[j]? = some t → args[j]? = some v → Value.okWide Yba.prog W .any base t v := hval0
  have hW' := hW
  obtain ⟨p, q, hA0, hV, rfl, hfz, hnd⟩ := hW
  have hA : DataW.TrodAll enc Yba.prog W 0 (fun _ => true) true Yba.f3.params.toList args.toList ds p := hA0
  rw [Yba.params3] at hA hval
  obtain ⟨v0, vs0, d0, ds0, p0, q0, hargs, rfl, rfl, h0, r0⟩ := trodAll_cons hA
  obtain ⟨v1, vs1, d1, ds1, p1, q1, rfl, rfl, rfl, h1, r1⟩ := trodAll_cons r0
  obtain ⟨v2, vs2, d2, ds2, p2, q2, rfl, rfl, rfl, h2, r2⟩ := trodAll_cons r1
  obtain ⟨v3, vs3, d3, ds3, p3, q3, rfl, rfl, rfl, h3, r3⟩ := trodAll_cons r2
  obtain ⟨rfl, rfl, rfl⟩ := trodAll_nil r3
  obtain rfl : args = #[v0, v1, v2, v3] := by cases args; simp_all
  obtain ⟨rfl, rfl⟩ := trodVars_none hV
  obtain ⟨a0, rfl, rfl, rfl, w0⟩ := open_int Yba.underlying2 (hval 0 2 v0 rfl rfl) h0
  obtain ⟨a1, rfl, rfl, rfl, w1⟩ := open_int Yba.underlying2 (hval 1 2 v1 rfl rfl) h1
  obtain ⟨a2, rfl, rfl, rfl, w2⟩ := open_int Yba.underlying5 (hval 2 5 v2 rfl rfl) h2
  obtain ⟨a3, len, cap, rfl⟩ := okWide_slice Yba.underlying22 (hval 3 22 v3 rfl rfl)
  have k3 := h3
  have lt3 : ∀ x ∈ p3, x.block < W.heap.size := by obtain ⟨m, hm⟩ := k3; exact DataW.trod_lt m _ _ _ hm
  have hwalk : Calls Yba.prog 3 #[.int .i64 a0, .int .i64 a1, .int .u8 a2, .slice a3 len cap] W fun e w' => e = .returned (.bool true) ∧ Below W.heap.size W w' := by
    by_cases hl : 1024 < len
    · exact walk_long a0 a1 a2 a3 len cap W hl
    · obtain ⟨fuel, hf⟩ := h3
      obtain ⟨a, l, c, hcs, hst⟩ := steps_of hf
      simp [Value.cells] at hcs
      obtain ⟨rfl, rfl, rfl⟩ := hcs
      have b2 := bounds_u8 w2
      exact main_walk a0 a1 a2 a3 len cap W (bounds_i64 w0).2 (bounds_i64 w1).2 b2.1 b2.2 (by omega) hst
  clear hA0 hval0
  refine hwalk.mono fun e W' ⟨he, bel⟩ => ?_
  subst he
  exact ⟨_, rfl, _, _, _, [], _, [], hW', trodAll_mk1 (shut_bool Yba.underlying4 _), (trodAll_cons_mk (shut_int Yba.underlying2 w0) (trodAll_cons_mk (shut_int Yba.underlying2 w1) (trodAll_cons_mk (shut_int Yba.underlying5 w2) (trodAll_cons_mk (Below.trod laidOut (by kernel_rfl) (of_decide_eq_true (by kernel_rfl)) k3 bel lt3) trodAll_mk0)))), rfl, bel.frame _, fun h => by cases h⟩

theorem over : Rows.lawS4172AModelRow.holds Yba.pinned (OpenSpec.ofChange Rows.lawS4172AModelSpec) :=
  OpenClaim.holds_of_wide 3 Yba.f3 rfl rfl rfl rfl rfl rfl rfl ⟨rfl, rfl, rfl, rfl, rfl⟩ rfl rfl rfl rfl rfl (by kernel_rfl) Yba.func3 (by kernel_rfl)
    (of_decide_eq_true (by kernel_rfl)) (by unfold Func.isWrapper; first | (rw [if_pos (by decide +kernel)]; kernel_rfl) | (rw [if_neg (by decide +kernel)]; exact ⟨rfl, rfl⟩))
    (fun os started H enc _ => lifted os started H enc)

/-- THE STATEMENT -/
theorem proved : Rows.LawS4172AModelSaid :=
  over
#print axioms proved
end Go.Proofs.Ybulkchjm
