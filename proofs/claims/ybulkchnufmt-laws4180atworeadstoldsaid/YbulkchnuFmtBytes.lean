/-
  Decoder.Bytes.
-/
import Derived.Test.YbulkchnuFmtState
namespace Go.Proofs.YbulkchnuFmt
open Go.RowKit Go.Extern.Stop Go.Stop Go.Extern

variable {F : Interp} {g : GV} {B br bd : Nat} {a : Option Addr} {len cap : Nat} {z : List Int} {k : Nat}

theorem below_trans {B : Nat} {w w' w2 : World} (h : Below B w w') (k : Below B w' w2) : Below B w w2 :=
  ⟨k.os.trans h.os, k.tape.trans h.tape, k.output.trans h.output, Nat.le_trans h.size k.size, fun i hi => (k.block i hi).trans (h.block i hi)⟩

/-- A decoder with an error: zeros. -/
theorem bytes_err (s : Nat) (w : World) (h : St F g B br bd a len cap z k true w) (hs : s ≤ 11) :
    Calls Ybaf.prog 9 #[.pointer (some ⟨bd, 0, none⟩), .int .i64 s] w fun e w' => e = .returned (.slice (some ⟨w.heap.size, 0, none⟩) s s) ∧
      St F g B br bd a len cap z k true w' ∧ w'.heap[w.heap.size]? = some (.cells (List.replicate s (.int .u8 0)).toArray 5 (0, 0)) ∧ Below w.heap.size w w' := by
  obtain ⟨i0, hi, hz0, hz1, hz2⟩ := info_parts info5
  have HH : Hid (St F g B br bd a len cap z k true w) := h
  clear h
  go_enter Ybaf.func9, Ybaf.ntmps9
  go_wp2_with (at_make; refine wpList_make_full _ rfl _ _ 22 rfl w.heap.size 5 i0 (.int .u8 0) 1 Ybaf.underlying22 hi hz0 hz1 _ _ _ _ s rfl rfl rfl rfl (by rw [hz2]; omega) (by unfold maxLen; omega) (Nat.le_refl _) ?_; intro w1 hown hgrow; obtain ⟨hr0, hbel⟩ := made_row hown hgrow; have HR : Hid (w1.heap[w.heap.size]? = some (.cells (List.replicate s (.int .u8 0)).toArray 5 (0, 0))) := hr0; clear hown hgrow hr0; have hst := HH.out.below hbel; obtain ⟨nb, h4, _⟩ := hst.d4; have HS : Hid (St F g B br bd a len cap z k true w1) := hst; clear hst)
  go_ret
  exact ⟨rfl, HS.out, HR.out, hbel⟩

theorem bytes_any (s : Nat) (w : World) (h : St F g B br bd a len cap z k false w) (hl : len ≤ 1024) (hz : z.length = len) (hcap : len ≤ cap) (hs : s ≤ 11) :
    Calls Ybaf.prog 9 #[.pointer (some ⟨bd, 0, none⟩), .int .i64 s] w fun e w' => e = .returned (.slice (some ⟨w.heap.size, 0, none⟩) s s) ∧
      St F g B br bd a len cap z (min (k + s) len) (decide (len < k + s)) w' ∧ w'.heap[w.heap.size]? = some (.cells (bufOf z k s).toArray 5 (0, 0)) ∧ Below B w w' := by
  obtain ⟨i0, hi, hz0, hz1, hz2⟩ := info_parts info5
  have HH : Hid (St F g B br bd a len cap z k false w) := h
  have hBw := h.hBw
  have hltd := h.ltd
  have hltr := h.rd.lt
  clear h
  go_enter Ybaf.func9, Ybaf.ntmps9
  go_wp2_with (at_make; refine wpList_make_full _ rfl _ _ 22 rfl w.heap.size 5 i0 (.int .u8 0) 1 Ybaf.underlying22 hi hz0 hz1 _ _ _ _ s rfl rfl rfl rfl (by rw [hz2]; omega) (by unfold maxLen; omega) (Nat.le_refl _) ?_; intro w1 hown hgrow; obtain ⟨hr0, hbel⟩ := made_row hown hgrow; have HR : Hid (w1.heap[w.heap.size]? = some (.cells (List.replicate s (.int .u8 0)).toArray 5 (0, 0))) := hr0; clear hown hgrow hr0; have hst := HH.out.below hbel; have h4 : w1.cell? ⟨bd, 4, none⟩ = some .nilIface := hst.d4; have h0 := hst.d0; have HS : Hid (St F g B br bd a len cap z k false w1) := hst; clear hst)
  refine (full_any br k a len cap w.heap.size s z w1 HS.out.glob HS.out.rd HS.out.src HS.out.hB hBw HS.out.hBw hl hz hs HS.out.hk HR.out (by omega) hcap).mono ?_
  rintro e w2 ⟨n, ev, rfl, hsays, hR2, hrow2, hF2⟩
  have hst2 := HS.out.read hF2 hR2 hBw (by omega) (Nat.min_le_right _ _)
  have hbe2 : Below B w w2 := (Fr.trans (Fr.ofBelow hbel) hF2).below' (fun i hi => by have := HS.out.hB; omega) hBw
  clear HS HR HH hR2 h4 h0 hbel hF2 hi hz0 hz1 hz2
  rcases hsays with ⟨hfit, rfl⟩ | ⟨hover, rfl | rfl⟩
  · have HS : Hid (St F g B br bd a len cap z (min (k + s) len) false w2) := hst2
    have HR : Hid (w2.heap[w.heap.size]? = some (.cells (bufOf z k s).toArray 5 (0, 0))) := hrow2
    clear hst2 hrow2
    go_wp2
    go_ret
    exact ⟨rfl, by rw [decide_eq_false (by omega)]; exact HS.out, HR.out, hbe2⟩
  · have ge := hst2.glob.e
    have HS : Hid (St F g B br bd a len cap z (min (k + s) len) false w2) := hst2
    have HR : Hid (w2.heap[w.heap.size]? = some (.cells (bufOf z k s).toArray 5 (0, 0))) := hrow2
    clear hst2 hrow2
    go_wp2_with fail
    refine (is_same g.aE w2).mono ?_
    rintro e w3 ⟨rfl, rfl⟩
    go_wp2_with fail
    refine (failf_any (F := F) w3 HS.out.glob HS.out.ans HS.out.hBw HS.out.hBd HS.out.d1 HS.out.d4 HS.out.z4).mono ?_
    rintro e w4 ⟨rfl, hC, nb, hc4, hcm, _⟩
    have HS4 : Hid (St F g B br bd a len cap z (min (k + s) len) true w4) := HS.out.fail hC hc4 hcm
    have HR4 : Hid (w4.heap[w.heap.size]? = some (.cells (bufOf z k s).toArray 5 (0, 0))) := (hC.2.2.fr.block _ (lt_of_row HR.out) (by omega)).trans HR.out
    have hbe4 : Below B w w4 := below_trans hbe2 (hC.2.2.fr.below' (fun i hi => by have := HS.out.hBd; omega) HS.out.hBw)
    clear HS HR hC hc4 hcm
    go_wp2
    go_ret
    exact ⟨rfl, by rw [decide_eq_true hover]; exact HS4.out, HR4.out, hbe4⟩
  · have ge := hst2.glob.e
    have gu := hst2.glob.u
    have HS : Hid (St F g B br bd a len cap z (min (k + s) len) false w2) := hst2
    have HR : Hid (w2.heap[w.heap.size]? = some (.cells (bufOf z k s).toArray 5 (0, 0))) := hrow2
    clear hst2 hrow2
    go_wp2_with fail
    refine (is_other g.aU g.aE g.cU g.cE g.tU g.tE w2 (Ne.symm HS.out.glob.ne) HS.out.glob.ur HS.out.glob.er).mono ?_
    rintro e w3 ⟨rfl, rfl⟩
    go_wp2_with fail
    refine (is_same g.aU w3).mono ?_
    rintro e w5 ⟨rfl, rfl⟩
    go_wp2_with fail
    refine (failf_any (F := F) w5 HS.out.glob HS.out.ans HS.out.hBw HS.out.hBd HS.out.d1 HS.out.d4 HS.out.z4).mono ?_
    rintro e w4 ⟨rfl, hC, nb, hc4, hcm, _⟩
    have HS4 : Hid (St F g B br bd a len cap z (min (k + s) len) true w4) := HS.out.fail hC hc4 hcm
    have HR4 : Hid (w4.heap[w.heap.size]? = some (.cells (bufOf z k s).toArray 5 (0, 0))) := (hC.2.2.fr.block _ (lt_of_row HR.out) (by omega)).trans HR.out
    have hbe4 : Below B w w4 := below_trans hbe2 (hC.2.2.fr.below' (fun i hi => by have := HS.out.hBd; omega) HS.out.hBw)
    clear HS HR hC hc4 hcm
    go_wp2
    go_ret
    exact ⟨rfl, by rw [decide_eq_true hover]; exact HS4.out, HR4.out, hbe4⟩
end Go.Proofs.YbulkchnuFmt
