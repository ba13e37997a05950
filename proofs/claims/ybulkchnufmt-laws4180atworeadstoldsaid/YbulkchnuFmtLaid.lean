/-
  What the row's 'laid' gives the walk.
-/
import Derived.Test.YbulkchnuFmtMain
import Derived.Test.YbulkchnuFmtRows
import Derived.Stop.LaidErr
import Derived.Stop.LaidTwo
import Derived.LaidLaws
import Derived.WideShapes
namespace Go.Proofs.YbulkchnuFmt
open Go.ChangeShapes Go.WideShapes Go.RowKit

theorem Ybaf.gM : Ybaf.prog.globalNamed "example.com/holdfast/holdfast/internal/format.ErrMalformed" = some 0 := by kernel_rfl
theorem Ybaf.gE : Ybaf.prog.globalNamed "io.EOF" = some 1 := by kernel_rfl
theorem Ybaf.gU : Ybaf.prog.globalNamed "io.ErrUnexpectedEOF" = some 2 := by kernel_rfl
theorem Ybaf.gF : Ybaf.prog.globalNamed "example.com/holdfast/holdfast/internal/format.formats" = some 4 := by kernel_rfl
theorem Ybaf.tM : (Ybaf.prog.globals[0]?).map (·.type) = some 31 := by kernel_rfl
theorem Ybaf.tE : (Ybaf.prog.globals[1]?).map (·.type) = some 31 := by kernel_rfl
theorem Ybaf.tU : (Ybaf.prog.globals[2]?).map (·.type) = some 31 := by kernel_rfl
theorem Ybaf.tF : (Ybaf.prog.globals[4]?).map (·.type) = some 76 := by kernel_rfl
theorem Ybaf.cells50 : Ybaf.prog.cellsOf 50 = 1 := by kernel_rfl
theorem Ybaf.cells9 : Ybaf.prog.cellsOf 9 = 1 := by kernel_rfl
theorem Ybaf.cells27 : Ybaf.prog.cellsOf 27 = 1 := by kernel_rfl
theorem Ybaf.cells3 : Ybaf.prog.cellsOf 3 = 1 := by kernel_rfl
theorem Ybaf.cells4 : Ybaf.prog.cellsOf 4 = 1 := by kernel_rfl
theorem Ybaf.cells73 : Ybaf.prog.cellsOf 73 = 5 := by kernel_rfl
theorem Ybaf.star : "*" ++ "errors.errorString" = "*errors.errorString" := by decide
/-- THE ONE ROW OF THAT NAME. -/
theorem Ybaf.row48 (u : TypeId) (h : Ybaf.prog.typeName? 3 u = some "*errors.errorString") : u = 48 :=
  typeName_ptr_named (nm := "errors.errorString") (by rw [Ybaf.star]; kernel_rfl) (by kernel_rfl) (by decide) u (by rw [Ybaf.star]; exact h)

theorem five_of {α : Type} : ∀ {l : List α}, l.length = 5 → ∃ a b c d e, l = [a, b, c, d, e]
  | [a, b, c, d, e], _ => ⟨a, b, c, d, e, rfl⟩

theorem bytes_of {s : ByteArray} {l : List UInt8} (h : s.data.toList = l) : s = ⟨l.toArray⟩ := by
  cases s
  subst h
  rfl

/-- One row of 'formats'. -/
theorem format_cells {H : Type} {enc : TypeId × Value → H} {W : World} {sp : Nat → Bool} {held : Bool} {n : Nat} {a : Addr} {k m : List UInt8} {v o : Int} {ms : Bool} {x : DataW H × List MemPlace}
    (h : (W.cells? 0 a 5).bind (DataW.trod enc Ybaf.prog W 0 sp held n 73) = some x) (hx : x.1 = .agg [.lit (.string k), .lit (.string m), .lit (.int .i64 v), .lit (.int .i64 o), .lit (.bool ms)]) :
    W.cell? (a.add 0) = some (.string ⟨k.toArray⟩) ∧ W.cell? (a.add 1) = some (.string ⟨m.toArray⟩) ∧ W.cell? (a.add 2) = some (.int .i64 v) ∧ W.cell? (a.add 3) = some (.int .i64 o) ∧ W.cell? (a.add 4) = some (.bool ms) := by
  rw [Option.bind_eq_some_iff] at h
  obtain ⟨cs, hcs, hy⟩ := h
  obtain ⟨xs, n', _, rfl, hl, hlen, hf⟩ := DataW.trod_struct Ybaf.underlying73 hy
  obtain ⟨y0, y1, y2, y3, y4, rfl⟩ := five_of hlen
  obtain ⟨_, hl5, hc⟩ := World.cells?_some hcs
  obtain ⟨c0, c1, c2, c3, c4, rfl⟩ := five_of hl5
  have u0 : DataW.trod enc Ybaf.prog W 0 sp held n' 27 ((([c0, c1, c2, c3, c4] : List Value).drop 0).take (Ybaf.prog.cellsOf 27)) = some y0 := hf 0 _ rfl
  rw [Ybaf.cells27] at u0
  have t0 : DataW.trod enc Ybaf.prog W 0 sp held n' 27 [c0] = some y0 := u0
  have u1 : DataW.trod enc Ybaf.prog W 0 sp held n' 9 ((([c0, c1, c2, c3, c4] : List Value).drop 1).take (Ybaf.prog.cellsOf 9)) = some y1 := hf 1 _ rfl
  rw [Ybaf.cells9] at u1
  have t1 : DataW.trod enc Ybaf.prog W 0 sp held n' 9 [c1] = some y1 := u1
  have u2 : DataW.trod enc Ybaf.prog W 0 sp held n' 3 ((([c0, c1, c2, c3, c4] : List Value).drop 2).take (Ybaf.prog.cellsOf 3)) = some y2 := hf 2 _ rfl
  rw [Ybaf.cells3] at u2
  have t2 : DataW.trod enc Ybaf.prog W 0 sp held n' 3 [c2] = some y2 := u2
  have u3 : DataW.trod enc Ybaf.prog W 0 sp held n' 3 ((([c0, c1, c2, c3, c4] : List Value).drop 3).take (Ybaf.prog.cellsOf 3)) = some y3 := hf 3 _ rfl
  rw [Ybaf.cells3] at u3
  have t3 : DataW.trod enc Ybaf.prog W 0 sp held n' 3 [c3] = some y3 := u3
  have u4 : DataW.trod enc Ybaf.prog W 0 sp held n' 4 ((([c0, c1, c2, c3, c4] : List Value).drop 4).take (Ybaf.prog.cellsOf 4)) = some y4 := hf 4 _ rfl
  rw [Ybaf.cells4] at u4
  have t4 : DataW.trod enc Ybaf.prog W 0 sp held n' 4 [c4] = some y4 := u4
  obtain ⟨s0, e0, rfl, _⟩ := DataW.trod_string Ybaf.underlying27 t0
  obtain ⟨s1, e1, rfl, _⟩ := DataW.trod_string Ybaf.underlying9 t1
  obtain ⟨i2, e2, rfl, _⟩ := DataW.trod_int Ybaf.underlying3 t2
  obtain ⟨i3, e3, rfl, _⟩ := DataW.trod_int Ybaf.underlying3 t3
  obtain ⟨b4, e4, rfl⟩ := DataW.trod_bool Ybaf.underlying4 t4
  simp only [List.cons.injEq, and_true] at e0 e1 e2 e3 e4
  subst e0 e1 e2 e3 e4
  simp only [List.map_cons, List.map_nil, DataW.agg.injEq, List.cons.injEq, DataW.lit.injEq, Lit.string.injEq, Lit.int.injEq, Lit.bool.injEq, true_and, and_true] at hx
  obtain ⟨h0, h1, rfl, rfl, rfl⟩ := hx
  have b0 := bytes_of h0
  have b1 := bytes_of h1
  subst b0 b1
  exact ⟨hc 0 (by omega), hc 1 (by omega), hc 2 (by omega), hc 3 (by omega), hc 4 (by omega)⟩

theorem two_of {α β : Type} {l : List (α × β)} {x y : α} {r : List α} (h : l.map (·.1) = x :: y :: r) : ∃ a b t, l = a :: b :: t ∧ a.1 = x ∧ b.1 = y := by
  match l, h with
  | a :: b :: t, h =>
    simp only [List.map_cons, List.cons.injEq] at h
    exact ⟨a, b, t, rfl, h.1, h.2.1⟩

theorem formats_of {W : World} {r : List (String × DataW Unit)} (h : laidMet Ybaf.prog (("example.com/holdfast/holdfast/internal/format.formats", Rows.laid_example_com_holdfast_holdfast_internal_format_formats) :: r) W) :
    ∃ bf off capf, W.cell? ⟨4, 0, none⟩ = some (.slice (some ⟨bf, off, none⟩) 20 capf) ∧
      W.cell? ⟨bf, off, none⟩ = some (.string ⟨#[111, 119, 110, 101, 114, 32, 107, 101, 121]⟩) ∧ W.cell? ⟨bf, off + 1, none⟩ = some (.string ⟨#[72, 70, 45, 79, 75, 69, 89, 10]⟩) ∧ W.cell? ⟨bf, off + 2, none⟩ = some (.int .i64 2) ∧ W.cell? ⟨bf, off + 3, none⟩ = some (.int .i64 1) ∧ W.cell? ⟨bf, off + 4, none⟩ = some (.bool false) ∧
      W.cell? ⟨bf, off + 5, none⟩ = some (.string metaS) ∧ W.cell? ⟨bf, off + 6, none⟩ = some (.string ⟨#[72, 70, 45, 77, 69, 84, 65, 10]⟩) ∧ W.cell? ⟨bf, off + 7, none⟩ = some (.int .i64 8) ∧ W.cell? ⟨bf, off + 8, none⟩ = some (.int .i64 3) ∧ W.cell? ⟨bf, off + 9, none⟩ = some (.bool false) := by
  obtain ⟨ps, ⟨g, t, cs, fuel, p, q, hg, ht, hv, hd, _, _⟩, _, _⟩ := h
  obtain rfl := Option.some.inj (Ybaf.gF.symm.trans hg)
  obtain rfl := Option.some.inj (Ybaf.tF.symm.trans ht)
  rcases DataW.trod_slice Ybaf.underlying76 hd with ⟨_, he⟩ | ⟨a, len, cap, elems, rest, n, _, hcs, hx, _, _, _, hlen, hel, _, _⟩
  · simp [Rows.laid_example_com_holdfast_holdfast_internal_format_formats] at he
  · have hs : elems.map (·.1) = _ := (DataW.slice.inj (Prod.mk.inj hx).1).1.symm
    have hl20 : len = 20 := by
      rw [← hlen, ← List.length_map (f := fun x : DataW Unit × List MemPlace => x.1), hs]
      rfl
    obtain ⟨x0, x1, tl, rfl, h0, h1⟩ := two_of hs
    have k0 := hel 0 (by omega)
    have k1 := hel 1 (by omega)
    rw [Ybaf.cells73] at k0 k1
    obtain ⟨p0, p1, p2, p3, p4⟩ := format_cells k0 h0
    obtain ⟨q0, q1, q2, q3, q4⟩ := format_cells k1 h1
    have hcell : W.cell? ⟨4, 0, none⟩ = some (.slice (some a) len cap) := by
      rw [World.var?_cell Ybaf.gF hv 0, ← Array.getElem?_toList, hcs]
      rfl
    subst hl20
    obtain ⟨bf, off, spot⟩ := a
    have hspot : spot = none := by simpa [Addr.add] using World.cell?_spot p0
    subst hspot
    simp only [add_plain] at p0 p1 p2 p3 p4 q0 q1 q2 q3 q4
    exact ⟨bf, off, cap, hcell, p0, p1, p2, p3, p4, q0, q1, q2, q3, q4⟩

theorem glob_of_laid {W : World} (h : laidMet Ybaf.prog Rows.lawS4180ATwoReadsRow.laid W) : ∃ g, Glob g W.heap.size W := by
  have h1 := laidMet.tail h
  obtain ⟨aE, aU, s0, s1, cE, cU, tE, tU, vE, vU, _, _, _, _, _, _, hne, hrE, hrU⟩ := laid_sentinels2 h1 Ybaf.gE Ybaf.tE Ybaf.gU Ybaf.tU Ybaf.underlying31 Ybaf.row48 Ybaf.underlying48 Ybaf.underlying50 rfl rfl Ybaf.underlying9 Ybaf.cells50 Ybaf.cells9
  have h2 := laidMet.tail (laidMet.tail h1)
  obtain ⟨bf, off, capf, f, f0, f1, f2, f3, f4, f5, f6, f7, f8, f9⟩ := formats_of h2
  have h3 := laidMet.tail h2
  obtain ⟨aM, sM, vM, cM, _, _⟩ := laid_sentinel h3 Ybaf.gM Ybaf.tM Ybaf.underlying31 Ybaf.row48 Ybaf.underlying48 Ybaf.underlying50 rfl rfl Ybaf.underlying9 Ybaf.cells50 Ybaf.cells9
  have eM : W.cell? ⟨0, 0, none⟩ = some (.iface 48 (.pointer (some aM))) := by simpa using World.var?_cell Ybaf.gM vM 0
  have eE : W.cell? ⟨1, 0, none⟩ = some (.iface 48 (.pointer (some aE))) := by simpa using World.var?_cell Ybaf.gE vE 0
  have eU : W.cell? ⟨2, 0, none⟩ = some (.iface 48 (.pointer (some aU))) := by simpa using World.var?_cell Ybaf.gU vU 0
  exact ⟨⟨aM, aE, aU, bf, off, capf, sM, cE, cU, tE, tU⟩, ⟨eM, eE, eU, f, cM, hrE, hrU, hne, f0, f1, f2, f3, f4, f5, f6, f7, f8, f9, World.block_lt_of_cell? _ _ f, World.block_lt_of_cell? _ _ cM, lt_of_row hrE, lt_of_row hrU, World.block_lt_of_cell? _ _ f0⟩⟩
end Go.Proofs.YbulkchnuFmt
