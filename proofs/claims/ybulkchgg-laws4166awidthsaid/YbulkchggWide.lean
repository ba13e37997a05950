/-
  'Rows.LawS4166AWidthSaid': the walk, and the row.
-/
import Derived.Test.YbulkchggWidth
import Derived.ProofKit
import Derived.OpenShut
import Derived.ShutString
import Derived.ChangeOld
import Derived.Below
import Derived.SliceStrings
import Derived.Laws.CopyOwn
import Derived.Deep.QuietTactic
import Derived.BigQuiet
namespace Go.Proofs.Ybulkchgg.lawS4166AWidth
open Go.ChangeShapes Go.WideShapes Go.ChangeAt Go.RowKit
open Go.ChangeMaps (open_string shut_string)

theorem own : ownKnob Yba.prog.godebug = none := by kernel_rfl
theorem laidOut : laidOutB Yba.prog = true := by kernel_rfl
theorem info9 : (Yba.prog.info? 9).map (fun i => (i.zero, i.size, i.bytes)) = some (some (.string ByteArray.empty), 1, 16) := by kernel_rfl
theorem size9 : (Yba.prog.info? 9).map (·.size) = some 1 := by kernel_rfl

/-- More than 1024 elements: true at once. -/
theorem walk_long (l : Bool) (a0 : Option Addr) (len cap : Nat) (r c : Int) (w : World) (h : 1024 < len) :
    Calls Yba.prog 3 #[.bool l, .slice a0 len cap, .int .i64 r, .int .i64 c] w fun e w' => e = .returned (.bool true) ∧ Below w.heap.size w w' := by
  go_enter Yba.func3, Yba.ntmps3
  go_wp2
  go_ret
  exact ⟨rfl, Below.refl _ _⟩

/-- A nil slice. -/
theorem walk_nil (l : Bool) (r c : Int) (w : World) :
    Calls Yba.prog 3 #[.bool l, .slice none 0 0, .int .i64 r, .int .i64 c] w fun e w' => e = .returned (.bool true) ∧ Below w.heap.size w w' := by
  have hne := fun (w : World) (a : Option Addr) (n c n' c' : Nat) => run_neq_slice_nil_any (P := Yba.prog) w 22 9 a n c n' c' Yba.underlying22
  have heq := fun (w : World) (a : Option Addr) (n c n' c' : Nat) => Lib.run_eql_slice_nil (P := Yba.prog) w 22 9 a n c n' c' Yba.underlying22
  cases l with
  | false =>
    go_enter Yba.func3, Yba.ntmps3
    go_wp2_with fail
    refine (width_no w.heap.size _ (by simp)).mono ?_
    rintro e w' ⟨rfl, rfl⟩
    go_wp2
    refine wp_loop_rounds 1 ?_
    rw [rounds_succ]
    go_wp2
    go_ret
    exact ⟨rfl, (Below.refl _ _).alloc (Nat.le_refl _) _⟩
  | true =>
    go_enter Yba.func3, Yba.ntmps3
    go_wp2_with fail
    refine (width_zero w.heap.size 0 none _ (by simp) (by simp)).mono ?_
    rintro e w' ⟨rfl, rfl⟩
    go_wp2
    refine wp_loop_rounds 1 ?_
    rw [rounds_succ]
    go_wp2
    refine wp_loop_rounds 1 ?_
    rw [rounds_succ]
    go_wp2
    go_ret
    exact ⟨rfl, (Below.refl _ _).alloc (Nat.le_refl _) _⟩

/-- What the copy leaves: the row, read cell by cell. -/
theorem copied {w2 : World} {B len : Nat} {cur : List Value} {ss : List ByteArray} (hcl : cur.length = len) (hl : len ≤ ss.length)
    (h : w2.heap[B]? = some (.cells (splice cur 0 ((ss.take len).map Value.string)).toArray 9 (0, 0))) (j : Nat) (hj : j < len) :
    w2.cell? ⟨B, j, none⟩ = some (.string (ss.getD j ByteArray.empty)) := by
  rw [cell_of_row w2 B j _ 9 (0, 0) h]
  have e : splice cur 0 ((ss.take len).map Value.string) = (ss.take len).map Value.string := by
    simp [splice, hcl]; omega
  rw [e]
  simp [hj, List.getElem?_eq_getElem (show j < ss.length by omega)]

theorem lt_of_cell {w : World} {a : Addr} {v : Value} (h : w.cell? a = some v) : a.block < w.heap.size := by
  by_cases hh : a.block < w.heap.size
  · exact hh
  · have : w.heap[a.block]? = none := by simp; omega
    simp [World.cell?, this] at h

/-- The argument's cells, in whatever later world. -/
theorem source {w W : World} {x : Addr} {len : Nat} {ss : List ByteArray} (hb : Below w.heap.size w W) (hl : len ≤ ss.length)
    (hcell : ∀ i, i < ss.length → w.cell? (x.add i) = some (.string (ss.getD i ByteArray.empty))) (j : Nat) (hj : j < len) : W.cell? (x.add j) = some (.string (ss.getD j ByteArray.empty)) := by
  have h := hcell j (by omega)
  have := lt_of_cell h
  rw [hb.cell this]
  exact h

theorem source' {w W : World} {x : Addr} {len : Nat} {ss : List ByteArray} (hb : Below w.heap.size w W) (hl : len ≤ ss.length)
    (hcell : ∀ i, i < ss.length → w.cell? (x.add i) = some (.string (ss.getD i ByteArray.empty))) (j : Nat) (v : Value) (hv : ((ss.take len).map Value.string)[j]? = some v) : W.cell? (x.add j) = some v := by
  have hj : j < len := by
    have := (List.getElem?_eq_some_iff.1 hv).1
    simp at this
    omega
  rw [source hb hl hcell j hj, ← hv]
  simp [hj, List.getElem?_eq_getElem (show j < ss.length by omega)]

theorem ones (l : List ByteArray) : ∀ v ∈ l.map Value.string, v.oneCell' = true := by
  intro v hv
  obtain ⟨s, _, rfl⟩ := List.mem_map.1 hv
  rfl

/-- What 'make' leaves. -/
theorem made_row {w w1 : World} {len : Nat} {xs : List Value} (hown : w1.ownsRow w.heap.size 9 1 (.slice (some ⟨w.heap.size, 0, none⟩) len len) len xs) (hgrow : w.grownBy w1 none) :
    ∃ cur : List Value, Hid (cur.length = len) ∧ Hid (w1.heap[w.heap.size]? = some (.cells cur.toArray 9 (0, 0))) ∧ Below w.heap.size w w1 := by
  have hbel : Below w.heap.size w w1 := (Below.refl _ _).grown hgrow (Nat.le_refl _) (by intro k hk; cases hk)
  rcases hown.2 with ⟨h, _⟩ | ⟨g', cap', cur, h', _, hg, _, _, hcs, _⟩
  · cases h
  · simp at h'
    obtain ⟨rfl, rfl⟩ := h'
    exact ⟨cur.toList, (show _ = _ by simpa using hcs), (show _ = _ by simpa using hg), hbel⟩

theorem lt_of_row {w : World} {B : Nat} {o : Obj} (h : w.heap[B]? = some o) : B < w.heap.size := by
  by_cases hh : B < w.heap.size
  · exact hh
  · rw [Array.getElem?_eq_none (by omega)] at h
    cases h

/-- 'copy(cp, chars)': the row behind it. -/
theorem copy_run {w w1 : World} {x : Addr} {len cap : Nat} {cur : List Value} {ss : List ByteArray} (hb : Below w.heap.size w w1) (hl : len ≤ ss.length)
    (hcell : ∀ i, i < ss.length → w.cell? (x.add i) = some (.string (ss.getD i ByteArray.empty))) (hcl : cur.length = len) (hr : w1.heap[w.heap.size]? = some (.cells cur.toArray 9 (0, 0))) :
    ∃ w2, (Builtin.copy_ #[22, 22] 3 #[.slice (some ⟨w.heap.size, 0, none⟩) len len, .slice (some x) len cap]).run Yba.prog w1 = .ok (.int .i64 len) w2 ∧
      Hid (∀ j, j < len → w2.cell? ⟨w.heap.size, j, none⟩ = some (.string (ss.getD j ByteArray.empty))) ∧ Below w.heap.size w w2 ∧ w.heap.size < w2.heap.size := by
  have h := run_copy_row (P := Yba.prog) w1 22 22 3 9 w.heap.size 0 len len x len cap cur.toArray 9 ((ss.take len).map Value.string) Yba.underlying22 size9 hr (by simp; omega) (source' hb hl hcell) (by simp; omega) (ones _)
  have hln : ((ss.take len).map Value.string).length = len := by simp; omega
  rw [hln] at h
  have hrow := setRow_heap w1 w.heap.size cur.toArray (cur.toArray.toList.take 0 ++ (ss.take len).map Value.string ++ cur.toArray.toList.drop (0 + len)).toArray 9 _ hr
  refine ⟨_, h, ?_, below_setRow hb (Nat.le_refl _) _, lt_of_row hrow⟩
  intro j hj
  refine copied hcl hl ?_ j hj
  rw [hrow]
  simp [splice, show min len ss.length = len by omega]

def Rel (w wr : World) (D len : Nat) (ss : List ByteArray) : Prop :=
  wr.cell? ⟨D, 3, none⟩ = some (.slice (some ⟨w.heap.size, 0, none⟩) len len) ∧ (∀ j, j < len → wr.cell? ⟨w.heap.size, j, none⟩ = some (.string (ss.getD j ByteArray.empty))) ∧ Below w.heap.size w wr

theorem Rel.drewN {w wr : World} {D len : Nat} {ss : List ByteArray} (h : Rel w wr D len ss) (n : Nat) : Rel w (wr.drewN n) D len ss :=
  ⟨by simpa using h.1, fun j hj => by simpa using h.2.1 j hj, below_drewN h.2.2 n⟩

theorem Rel.start {w w2 : World} {len : Nat} {ss : List ByteArray} {o : Obj} (hc : ∀ j, j < len → w2.cell? ⟨w.heap.size, j, none⟩ = some (.string (ss.getD j ByteArray.empty))) (hb : Below w.heap.size w w2) (hs : w.heap.size < w2.heap.size)
    (h3 : (w2.alloc o).cell? ⟨w2.heap.size, 3, none⟩ = some (.slice (some ⟨w.heap.size, 0, none⟩) len len)) : Rel w (w2.alloc o) w2.heap.size len ss :=
  ⟨h3, fun j hj => by rw [World.cell?_alloc_past _ _ _ hs]; exact hc j hj, hb.alloc (by omega) o⟩

theorem not_self (s : ByteArray) : (s.toList != s.toList) = false := by simp

set_option maxHeartbeats 1000000 in
theorem walk_some (l : Bool) (x : Addr) (len cap : Nat) (ss : List ByteArray) (r c : Int) (w : World) (hle : len ≤ 1024) (hl : len ≤ ss.length)
    (hcell : ∀ i, i < ss.length → w.cell? (x.add i) = some (.string (ss.getD i ByteArray.empty))) :
    Calls Yba.prog 3 #[.bool l, .slice (some x) len cap, .int .i64 r, .int .i64 c] w fun e w' => e = .returned (.bool true) ∧ Below w.heap.size w w' := by
  have hne := fun (w : World) (a : Option Addr) (n c n' c' : Nat) => run_neq_slice_nil_any (P := Yba.prog) w 22 9 a n c n' c' Yba.underlying22
  have heq := fun (w : World) (a : Option Addr) (n c n' c' : Nat) => Lib.run_eql_slice_nil (P := Yba.prog) w 22 9 a n c n' c' Yba.underlying22
  obtain ⟨i0, hi, hz0, hz1, hz2⟩ := info_parts info9
  have HC : Hid (∀ i, i < ss.length → w.cell? (x.add i) = some (.string (ss.getD i ByteArray.empty))) := hcell
  clear hcell
  go_enter Yba.func3, Yba.ntmps3
  cases l with
  | false =>
    go_wp2_with (at_make; refine wpList_make_full _ rfl _ _ 22 rfl w.heap.size 9 i0 (.string ByteArray.empty) 1 Yba.underlying22 hi hz0 hz1 _ _ _ _ len rfl rfl rfl rfl (by rw [hz2]; omega) (by unfold maxLen; omega) (Nat.le_refl _) ?_; intro w1 hown hgrow; obtain ⟨cur, HL, HR, hbel⟩ := made_row hown hgrow; obtain ⟨w2, hcopy, HC2, hb2, hs2⟩ := copy_run (cap := cap) hbel hl HC.out HL.out HR.out; clear hown hgrow HL HR hbel)
    refine (width_no w2.heap.size _ (by simp)).mono ?_
    rintro e w' ⟨rfl, rfl⟩
    go_wp2
    clear hcopy
    go_loopw [15] (fun i wr => ∃ k : Nat, k ≤ len ∧ i = .int .i64 k ∧ Rel w wr w2.heap.size len ss) (fun i _ => len - (intOf i).toNat)
    case atStart => exact ⟨0, Nat.zero_le _, rfl, Rel.start HC2.out hb2 hs2 (by simp)⟩
    case round =>
      obtain ⟨k, hk, rfl, hR⟩ := hrel
      have HR := hR
      obtain ⟨h3, hcp, hbr⟩ := HR
      by_cases hlt : k < len
      · have hxc := source hbr hl HC.out k hlt
        have hx0 := source hbr hl HC.out 0 (by omega)
        have hcpk := hcp k hlt
        have HRR : Hid (Rel w wr w2.heap.size len ss) := hR
        obtain ⟨b, off, spot⟩ := x
        have hspot : spot = none := by simpa [Addr.add] using World.cell?_spot hx0
        subst hspot
        have hxc' : wr.cell? ⟨b, off + k, none⟩ = some (.string (ss.getD k ByteArray.empty)) := by rw [← add_plain]; exact hxc
        generalize ss.getD k ByteArray.empty = s at hxc' hcpk
        have hk1 : (0 : Int) ≤ (k : Int) := by omega
        have hk2 : (k : Int) < (len : Int) := by omega
        clear hxc hx0 hcp hR hbr HC HC2 hb2 hs2
        go_wp2
        go_quiet (fail)
        go_wp2
        go_roundw
        case rel => exact ⟨k + 1, by omega, by go_num, HRR.out.drewN _⟩
        case measure => simp [intOf]; omega
      · clear hcp HC2
        go_wp2
        go_ret
        exact ⟨rfl, hbr⟩
  | true =>
    by_cases hn0 : len = 0
    · subst hn0
      go_wp2_with (at_make; refine wpList_make_full _ rfl _ _ 22 rfl w.heap.size 9 i0 (.string ByteArray.empty) 1 Yba.underlying22 hi hz0 hz1 _ _ _ _ 0 rfl rfl rfl rfl (by rw [hz2]; omega) (by unfold maxLen; omega) (Nat.le_refl _) ?_; intro w1 hown hgrow; obtain ⟨cur, HL, HR, hbel⟩ := made_row hown hgrow; obtain ⟨w2, hcopy, HC2, hb2, hs2⟩ := copy_run (cap := cap) hbel hl HC.out HL.out HR.out; clear hown hgrow HL HR hbel)
      refine (width_zero w2.heap.size 0 (some ⟨w.heap.size, 0, none⟩) _ (by simp) (by simp)).mono ?_
      rintro e w' ⟨rfl, rfl⟩
      go_wp2
      refine wp_loop_rounds 1 ?_
      rw [rounds_succ]
      go_wp2
      refine wp_loop_rounds 1 ?_
      rw [rounds_succ]
      go_wp2
      go_ret
      exact ⟨rfl, hb2.alloc (by omega) _⟩
    · have hn1 : ((len : Int) == 0) = false := by simp; omega
      have hn2 : (0 : Int) < (len : Int) := by omega
      go_wp2_with (at_make; refine wpList_make_full _ rfl _ _ 22 rfl w.heap.size 9 i0 (.string ByteArray.empty) 1 Yba.underlying22 hi hz0 hz1 _ _ _ _ len rfl rfl rfl rfl (by rw [hz2]; omega) (by unfold maxLen; omega) (Nat.le_refl _) ?_; intro w1 hown hgrow; obtain ⟨cur, HL, HR, hbel⟩ := made_row hown hgrow; obtain ⟨w2, hcopy, HC2, hb2, hs2⟩ := copy_run (cap := cap) hbel hl HC.out HL.out HR.out; clear hown hgrow HL HR hbel)
      refine (width_yes w2.heap.size len len (some ⟨w.heap.size, 0, none⟩) _ hn1 (by simp) (by simp)).mono ?_
      rintro e w' ⟨rfl, rfl⟩
      clear hcopy
      go_wp2
      go_loop [13, 14] (fun n i => ∃ k : Nat, k ≤ len ∧ n = .int .i64 k ∧ i = .int .i64 k) (fun _ i => len - (intOf i).toNat)
      case atStart => exact ⟨0, Nat.zero_le _, rfl, rfl⟩
      case round =>
        obtain ⟨k, hk, rfl, rfl⟩ := hrel
        by_cases hlt : k < len
        · go_wp2
          go_round
          case rel => exact ⟨k + 1, by omega, by go_num, by go_num⟩
          case measure => simp [intOf]; omega
        · have hkl : len = k := by omega
          subst hkl
          go_wp2
          go_loopw [15] (fun i wr => ∃ k : Nat, k ≤ len ∧ i = .int .i64 k ∧ Rel w wr w2.heap.size len ss) (fun i _ => len - (intOf i).toNat)
          case atStart => exact ⟨0, Nat.zero_le _, rfl, Rel.start HC2.out hb2 hs2 (by simp)⟩
          case round =>
            obtain ⟨k, hk, rfl, hR⟩ := hrel
            have HR := hR
            obtain ⟨h3, hcp, hbr⟩ := HR
            by_cases hlt : k < len
            · have hxc := source hbr hl HC.out k hlt
              have hx0 := source hbr hl HC.out 0 (by omega)
              have hcpk := hcp k hlt
              have HRR : Hid (Rel w wr w2.heap.size len ss) := hR
              obtain ⟨b, off, spot⟩ := x
              have hspot : spot = none := by simpa [Addr.add] using World.cell?_spot hx0
              subst hspot
              have hxc' : wr.cell? ⟨b, off + k, none⟩ = some (.string (ss.getD k ByteArray.empty)) := by rw [← add_plain]; exact hxc
              generalize ss.getD k ByteArray.empty = s at hxc' hcpk
              have hk1 : (0 : Int) ≤ (k : Int) := by omega
              have hk2 : (k : Int) < (len : Int) := by omega
              clear hxc hx0 hcp hR hbr HC HC2 hb2 hs2
              go_wp2
              go_quiet (fail)
              go_wp2
              go_roundw
              case rel => exact ⟨k + 1, by omega, by go_num, HRR.out.drewN _⟩
              case measure => simp [intOf]; omega
            · clear hcp HC2
              go_wp2
              go_ret
              exact ⟨rfl, hbr⟩
end Go.Proofs.Ybulkchgg.lawS4166AWidth
