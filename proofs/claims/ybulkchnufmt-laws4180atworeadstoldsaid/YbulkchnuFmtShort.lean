/-
  io.ReadAtLeast where the reader holds some of what is asked for, not all.
-/
import Derived.Test.YbulkchnuFmtFull
namespace Go.Proofs.YbulkchnuFmt
open Go.RowKit Go.Extern.Stop Go.Stop Go.Extern

theorem eql_same (a : Addr) (W : World) : (binOp BinOp.eql 31 (.iface 48 (.pointer (some a))) (.iface 48 (.pointer (some a)))).run Ybaf.prog W = .ok (.bool true) W := by
  obtain ⟨i, hi, hcmp⟩ := Option.map_eq_some_iff.1 Ybaf.isComp
  obtain ⟨j, hj, hjs⟩ := Option.map_eq_some_iff.1 Ybaf.isSize
  exact run_eql_iface_ptr_same (P := Ybaf.prog) W a Ybaf.underlying31 Ybaf.underlying48 hi hcmp hj

/-- A second round meets its end: io.ErrUnexpectedEOF. -/
theorem least_short {g : GV} {B : Nat} (br k b off len cap bb s m : Nat) (z : List Int) (cur : List Value) (w : World) (G : Glob g B w) (R : Rd w br (.slice (some ⟨b, off, none⟩) len cap) k) (hB : B ≤ br) (hBb : B ≤ bb) (hBw : B ≤ w.heap.size) (hl : len ≤ 1024)
    (hz : z.length = len) (hcur : cur.length = s) (hs : s ≤ 11) (hm : k + m = len) (hm0 : 0 < m) (hms : m < s)
    (hrow : w.heap[bb]? = some (.cells cur.toArray 5 (0, 0))) (hsrc : ∀ j, j < len → w.cell? ⟨b, off + j, none⟩ = some (.int .u8 (z.getD j 0))) (n1 : bb ≠ br) (n2 : b ≠ bb) (n3 : b ≠ br) (hcap : len ≤ cap) :
    Calls Ybaf.prog 15 #[.iface 23 (.pointer (some ⟨br, 0, none⟩)), .slice (some ⟨bb, 0, none⟩) s s, .int .i64 s] w fun e w' => e = .returned (.tuple #[.int .i64 m, .iface 48 (.pointer (some g.aU))]) ∧
      Rd w' br (.slice (some ⟨b, off, none⟩) len cap) (k + m) ∧ w'.heap[bb]? = some (.cells (splice cur 0 (bytesAt z k m)).toArray 5 (0, 0)) ∧ Fr (fun i => i = br ∨ i = bb) w w' := by
  have hmr := Ybaf.methodRead
  have hna := Ybaf.aheadRead
  have hmf : ∀ (fn : Fn) (first cap : Array Value) (w : World), (Instr.makeFunc fn first cap).run Ybaf.prog w = .ok (.func fn first cap) w := fun _ _ _ _ => rfl
  have hread := read_some br k b off len cap bb 0 s s m z cur w.drew (R.fr (S := fun _ => False) (Fr.refl _ w).drew (fun h => h)) (by omega) hl hz (by omega) hcur (by omega) hrow hsrc n1 n2 n3 hcap
  clear hsrc hrow R
  have i0 : (0 : Int) ≤ (m : Int) := by omega
  have i1 : (m : Int) ≤ (s : Int) := by omega
  have heqA := eql_same g.aE
  go_enter Ybaf.func15, Ybaf.ntmps15
  go_wp2
  refine wp_loop_rounds 3 ?_
  rw [rounds_succ]
  go_wp2_with fail
  go_region_held3 (fun _ => True) (exact trivial)
    (first
      | (go_at_call 35; refine hread.mono ?_; rintro e w1 ⟨rfl, hR1, hrow1, hF1⟩))
  rename_i hHeld
  clear hHeld hread
  have hF1' : Fr (fun i => i = br ∨ i = bb) w w1 := Fr.trans (Fr.refl _ w).drew hF1
  have hG1 : Glob g B w1 := G.below (hF1'.below' (fun i hi => by omega) hBw)
  have hread2 := fun p : Value => read_end (p := p) br (k + m) (some ⟨b, off, none⟩) len cap w1.drew (hG1.below (Below.refl B w1).drew) (hR1.fr (S := fun _ => False) (Fr.refl _ w1).drew (fun h => h)) hB (by omega)
  go_wp2_with fail
  rw [rounds_succ]
  go_wp2_with fail
  go_region_held3 (fun _ => True) (exact trivial)
    (first
      | (go_at_call 35; refine (hread2 _).mono ?_; rintro e w2 ⟨rfl, hR2, hF2⟩))
  rename_i hHeld
  clear hHeld hread2
  have hF2' : Fr (fun i => i = br ∨ i = bb) w w2 := hF1'.drew.trans (hF2.mono (fun _ h => .inl h))
  have hG2 : Glob g B w2 := G.below (hF2'.below' (fun i hi => by omega) hBw)
  have ge := hG2.e
  have gu := hG2.u
  have hrow2 : w2.heap[bb]? = some (.cells (splice cur 0 (bytesAt z k m)).toArray 5 (0, 0)) := (hF2.block bb (lt_of_row (w := w1.drew) hrow1) n1).trans hrow1
  clear hG1 hG2 hF1 hF2 hrow1 hR1
  go_wp2_with fail
  rw [rounds_succ]
  go_wp2
  go_ret2
  exact ⟨rfl, hR2, hrow2, hF2'⟩
end Go.Proofs.YbulkchnuFmt
