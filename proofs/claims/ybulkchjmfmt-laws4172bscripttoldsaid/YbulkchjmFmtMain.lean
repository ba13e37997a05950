/-
  LawS4172BScript (function 3): the walk.
-/
import Derived.Test.YbulkchjmFmtEnd
import Derived.Lib.Builder
namespace Go.Proofs.YbulkchjmFmt
open Go.RowKit Go.Maps Go.WideMaps

theorem run_store_float {P : Program} (w : World) (a : Addr) (m : Mode) (k : FloatKind) (x : Nat) : (store a (.float k x) m).run P w = stored P w a (.float k x) m := run_store P w a _ m rfl
attribute [local go_sem] run_store_float

theorem ptr_same (w : World) (a : Addr) : (binOp .neq 58 (.pointer (some a)) (.pointer (some a))).run Ybaf.prog w = .ok (.bool false) w := by
  obtain ⟨i, hi⟩ : ∃ i, Ybaf.prog.info? 69 = some i := Option.isSome_iff_exists.1 (by kernel_rfl)
  exact Lib.run_neq_ptr_same w a Ybaf.underlying58 hi

theorem name_same (k : Nat) (w : World) : Calls Ybaf.prog 4 #[.int .i64 k] w fun e w' => e = .returned (.string (nameS k)) ∧ w' = w := (name_any k w).mono fun _ _ ⟨h1, h2⟩ => ⟨h1, h2.symm⟩

set_option maxRecDepth 1000000 in
set_option maxHeartbeats 4000000 in
theorem main_walk (a0 : Int) (ev : Bool) (a : Option Addr) (len cap : Nat) (w : World) (h0 : 0 ≤ a0) (h1 : a0 ≤ 255) (hlen : len ≤ 1024) (hst : Steps w a len) :
    Calls Ybaf.prog 3 #[.int .u8 a0, .bool ev, .slice a len cap] w fun e w' => e = .returned (.bool true) ∧ Below w.heap.size w w' := by
  obtain ⟨nb, hnb⟩ : ∃ nb : Nat, 1 + a0 % 3 = (nb : Int) := ⟨(1 + a0 % 3).toNat, by omega⟩
  have hnb1 : 1 ≤ nb := by omega
  have hnb3 : nb ≤ 3 := by omega
  have hmk := fun w => run_make_row' (P := Ybaf.prog) 57 58 (.pointer none) 8 Ybaf.underlying57 info58 rfl .i64 .i64 nb (by omega) (by omega) w
  have hmm := @run_makeMap Ybaf.prog
  have HST : Hid (Steps w a len) := hst
  have hpe := ptr_same
  obtain ⟨i81, hi81, hz81, hs81, hb81⟩ := info_parts info81
  clear hst
  go_enter Ybaf.func3, Ybaf.ntmps3
  go_upto_if 55 with fail
  go_cut [] from 55 to 60 (fun wc => Init w ev wc)
  case first =>
    cases ev with
    | false =>
      go_wp2_with fail
      go_meet
      case rel => exact init_of w false
    | true =>
      go_wp2_with fail
      go_meet
      case rel => exact init_of w true
  case rest =>
    have hsz : wc.heap.size = w.heap.size + 4 := hcut.2.1
    have HI : Hid (Init w ev wc) := hcut
    clear hcut
    rw [show w.heap.size + 1 + 1 + 1 = w.heap.size + 3 from rfl, show w.heap.size + 1 + 1 = w.heap.size + 2 from rfl]
    go_wp2_with fail
    go_loopw [11] (fun i wr => ∃ k : Nat, k ≤ nb ∧ i = .int .i64 k ∧ Half w nb k ev wr) (fun i _ => nb - (intOf i).toNat)
    case atStart => exact ⟨0, Nat.zero_le _, rfl, half_start HI.out⟩
    case round =>
      clear hsz HI
      obtain ⟨k, hk, rfl, hH⟩ := hrel
      by_cases hlt : k < nb
      · have HH : Hid (Half w nb k ev wr) := hH
        have hsz := hH.size
        obtain ⟨⟨u, hc4⟩, hf4⟩ := half_slot hH hlt (.map #[] 0) (.map #[] 0) (.cells (brokerCells w.heap.size k) 69)
        unfold brokerCells at hc4 hf4
        rw [show w.heap.size + 6 + 3 * k = w.heap.size + 5 + 3 * k + 1 from by omega] at hc4 hf4
        clear hH
        go_upto_region 14 with (go_at_call 4; refine (name_any k _).mono ?_; rintro e w' ⟨rfl, rfl⟩)
        rw [show w.heap.size + 5 + 3 * k + 1 + 1 = w.heap.size + 7 + 3 * k from by omega, show w.heap.size + 5 + 3 * k + 1 = w.heap.size + 6 + 3 * k from by omega]
        rw [show ((((wr.alloc (.map #[] 0)).alloc (.map #[] 0)).alloc (.cells #[.string (nameS k), .pointer none, .int .u64 0, .int .i64 0, .pointer none, .slice none 0 0, .map (some (w.heap.size + 5 + 3 * k)), .map (some (w.heap.size + 6 + 3 * k)), .pointer none] 69)).setCell ⟨w.heap.size + 4, k, none⟩ (.pointer (some ⟨w.heap.size + 7 + 3 * k, 0, none⟩))) = round1 w wr k from rfl]
        obtain ⟨f1, f2, w5, hput, hH5⟩ := half_step HH.out hlt hnb3
        have HH5 : Hid (Half w nb (k + 1) ev w5) := hH5
        clear hH5 hc4 hf4 HH hsz
        generalize round1 w wr k = W at f1 f2 hput ⊢
        go_region
        all_goals go_wp2
        all_goals
          go_roundw
          case rel => exact ⟨k + 1, by omega, by go_num, HH5.out⟩
          case measure => simp [intOf]; omega
      · have hkn : nb = k := by omega
        subst hkn
        have hsz := hH.size
        have HM : Hid (Mid w nb ev (fun _ => none) (fun _ => ⟨#[]⟩) (fun _ => false) (fun _ => .int .i64 0) (fun _ => .string ⟨#[]⟩) (fun _ => .bool false) (((wr.alloc (.cells (arr3 fun _ => .int .i64 0) 70)).alloc (.cells (arr3 fun _ => .string ⟨#[]⟩) 71)).alloc (.cells (arr3 fun _ => .bool false) 72))) := mid_start hH
        have HLg : Hid (wr.heap[w.heap.size + 3]? = some (.cells #[.slice none 0 0] 56 (0, 0))) := hH.log
        clear hH
        go_wp2_with fail
        rw [show w.heap.size + 5 + 3 * nb + 1 + 1 = w.heap.size + 7 + 3 * nb from by omega, show w.heap.size + 5 + 3 * nb + 1 = w.heap.size + 6 + 3 * nb from by omega]
        go_loopw [16] (fun i wx => ∃ k : Nat, k ≤ 3 ∧ i = .int .i64 k ∧ Mid w nb ev (fun _ => none) (fun _ => ⟨#[]⟩) (fun _ => false) (fill k) (fun _ => .string ⟨#[]⟩) (fun _ => .bool false) wx ∧ Logs w nb ev 0 [] 0 [] (.slice none 0 0) wx) (fun i _ => 3 - (intOf i).toNat)
        case atStart => exact ⟨0, Nat.zero_le _, rfl, HM.out, logs_start (by rw [Below.heap_alloc _ _ _ (by simp; omega), Below.heap_alloc _ _ _ (by simp; omega), Below.heap_alloc _ _ _ (by omega)]; exact HLg.out)⟩
        case round =>
          clear HM HLg hsz
          obtain ⟨k, hk, rfl, hM, hL⟩ := hrel
          by_cases hlt : k < 3
          · obtain ⟨hc, hf⟩ := hM.owner hlt
            have HM := hM.setOwner hlt (.int .i64 (-1))
            have HM' : Hid (Mid w nb ev (fun _ => none) (fun _ => ⟨#[]⟩) (fun _ => false) (fill (k + 1)) (fun _ => .string ⟨#[]⟩) (fun _ => .bool false) (wr.setCell ⟨w.heap.size + 5 + 3 * nb, k, none⟩ (.int .i64 (-1)))) := HM.congrO (fun j _ => fill_step k j)
            have HL' : Hid (Logs w nb ev 0 [] 0 [] (.slice none 0 0) (wr.setCell ⟨w.heap.size + 5 + 3 * nb, k, none⟩ (.int .i64 (-1)))) := hL.setCell (by show w.heap.size + 5 + 3 * nb < _; omega) (by show w.heap.size + 5 + 3 * nb ≠ _; omega) _
            clear HM hM hL
            go_wp2
            go_roundw
            case rel => exact ⟨k + 1, by omega, by go_num, HM'.out, HL'.out⟩
            case measure => simp [intOf]; omega
          · have hk3 : k = 3 := by omega
            subst hk3
            rw [show ((3 : Nat) : Int) = 3 from rfl]
            go_wp2_with fail
            have HM : Hid (Mid w nb ev (fun _ => none) (fun _ => ⟨#[]⟩) (fun _ => false) (fun k => .int .i64 (ownI ((fun _ => none : Nat → Option Nat) k))) (fun _ => .string ⟨#[]⟩) (fun _ => .bool false) wr) := hM.congrO (fun j hj => by simp [fill, hj, ownI])
            have HL : Hid (Logs w nb ev 0 [] 0 [] (.slice none 0 0) wr) := hL
            clear hM hL
            go_loopw [17, 95] (fun vw i wx => ∃ (k : Nat) (own : Nat → Option Nat) (lf : Nat → ByteArray) (pb : Nat → Bool) (ys : List Value), k ≤ len ∧ i = .int .i64 k ∧ Shape k ys ∧ Mid w nb ev own lf pb (fun k => .int .i64 (ownI (own k))) (fun k => .string (lf k)) (fun k => .bool (pb k)) wx ∧ Logs w nb ev k ys k ys vw wx) (fun _ i _ => len - (intOf i).toNat)
            case atStart => exact ⟨0, _, _, _, [], Nat.zero_le _, rfl, shape_nil, HM.out, HL.out⟩
            case round =>
              clear HM HL
              obtain ⟨k, own, lf, pb, ys, hk, rfl, hSh, hM, hL⟩ := hrel
              have HSh : Hid (Shape k ys) := hSh
              clear hSh
              by_cases hlt : k < len
              · obtain ⟨b, off, x, y, z, rfl, c0, c1, c2, hx0, hx1, hy0, hy1, hz0, hz1⟩ := HST.out.at hM.below hlt
                obtain ⟨q, hq⟩ : ∃ q : Nat, x % 3 = (q : Int) := ⟨(x % 3).toNat, by omega⟩
                obtain ⟨j, hj⟩ : ∃ j : Nat, y % (nb : Int) = (j : Int) := ⟨(y % (nb : Int)).toNat, by have := Int.emod_nonneg y (show (nb : Int) ≠ 0 by omega); omega⟩
                have hq3 : q < 3 := by omega
                have hjn : j < nb := by have := Int.emod_lt_of_pos y (show (0 : Int) < nb by omega); omega
                obtain ⟨ru, hru⟩ : ∃ ru : Int, z % 4 = ru := ⟨_, rfl⟩
                have HM : Hid (Mid w nb ev own lf pb (fun k => .int .i64 (ownI (own k))) (fun k => .string (lf k)) (fun k => .bool (pb k)) wr) := hM
                have HL : Hid (Logs w nb ev k ys k ys u17 wr) := hL
                have hco : ∀ o, (wr.alloc o).cell? ⟨w.heap.size + 5 + 3 * nb, q, none⟩ = some (.int .i64 (ownI (own q))) := fun o => ((hM.alloc o).owner hq3).1
                have hszM := hM.size
                clear hM hL
                cases hown : own q with
                | none =>
                  simp only [hown, ownI] at hco
                  go_upto_region 32 with fail
                  rw [hj]
                  clear hco hj c0 c1 c2 hq
                  have HM1 := HM.out.alloc (.cells #[.int .u8 x, .int .u8 y, .int .u8 z] 74)
                  have HL1 := HL.out.alloc (by omega) (.cells #[.int .u8 x, .int .u8 y, .int .u8 z] 74)
                  clear HM HL hszM
                  generalize wr.alloc (.cells #[.int .u8 x, .int .u8 y, .int .u8 z] 74) = W1 at HM1 HL1 ⊢
                  have HM : Hid (Mid w nb ev own lf pb (fun k => .int .i64 (ownI (own k))) (fun k => .string (lf k)) (fun k => .bool (pb k)) W1) := HM1
                  have HL : Hid (Logs w nb ev k ys k ys u17 W1) := HL1
                  clear HM1 HL1
                  have hsz1 := HM.out.size
                  cases ev with
                  | false =>
                    have M2 : Hid (Mid w nb false own lf pb (fun k => .int .i64 (ownI (own k))) (fun k => .string (lf k)) (fun k => .bool (pb k)) (W1.alloc (.cells #[.string (nameS j), .int .i64 ru, .float .f64 0, .int .i64 0] 77))) := HM.out.alloc _
                    have L2 : Hid (Logs w nb false k ys k ys u17 (W1.alloc (.cells #[.string (nameS j), .int .i64 ru, .float .f64 0, .int .i64 0] 77))) := HL.out.alloc (by omega) _
                    have C2 : Hid (Core w.heap.size nb .nilIface own (owOf own lf) (plOf own pb) (W1.alloc (.cells #[.string (nameS j), .int .i64 ru, .float .f64 0, .int .i64 0] 77))) := HM.out.core.alloc _
                    go_wp2_with (first | (go_at_call 4; refine (name_any _ _).mono ?_; rintro e w' ⟨rfl, rfl⟩) | (go_at_call 6; refine (key_any _ _).mono ?_; rintro e w' ⟨rfl, rfl⟩) | (go_at_call 5; refine (assign_nil w.heap.size nb q j W1.heap.size own lf pb ru _ C2.out hq3 hjn hnb3 (fun i h => M2.out.lt q i hq3 h) (by omega) (by simp) (by simp)).mono ?_; rintro e w3 ⟨rfl, hC3, hF3⟩; have M3 := mid_assign M2.out hC3 (lt_upd M2.out.lt hjn) hF3 (fun b hb => by unfold Turned at hb; omega); have hb3 := M3.bs j hjn; simp only [brk] at hb3 ⊢; have hd0 : w3.cell? ⟨W1.heap.size, 0, none⟩ = some (.string (nameS j)) := (hF3.cell (by simp) (by unfold Turned; dsimp only; omega)); have hd1 : w3.cell? ⟨W1.heap.size, 1, none⟩ = some (.int .i64 ru) := (hF3.cell (by simp) (by unfold Turned; dsimp only; omega))))
                    go_quiet ((go_at_call 4; exact Calls.quiet_of_same (name_same _ _)))
                    have M4 := M3.drewN nq
                    have L4 : Logs w nb false k ys (k + 1) (ys ++ callCells (keyS q) (fromOf (own q)) (nameS j) ru) u17 (w3.drewN nq) := (L2.out.assignNil hF3 (by simp; omega) (fun b hb => by unfold Turned at hb; omega) _ _).drewN nq
                    clear C2 M2 L2 HM HL hC3 hF3 M3 hb3 hd0 hd1
                    generalize w3.drewN nq = W4 at M4 L4 ⊢
                    obtain ⟨ho1, ho2⟩ := M4.owner hq3
                    obtain ⟨hl1, hl2⟩ := M4.left hq3
                    obtain ⟨hp1, hp2⟩ := M4.placed hq3
                    have HM4 : Hid _ := mid_round hq3 M4
                    have HL4 : Hid _ := logs_round (q := q) (j := j) (F := fromOf (own q)) (R := ru != 3) L4
                    clear M4 L4
                    go_upto_region 41 with fail
                    rw [show ((W4.setCell ⟨w.heap.size + 5 + 3 * nb, q, none⟩ (.int .i64 j)).setCell ⟨w.heap.size + 6 + 3 * nb, q, none⟩ (.string ⟨#[]⟩)).setCell ⟨w.heap.size + 7 + 3 * nb, q, none⟩ (.bool (ru != 3)) = round3 w nb q j (fromOf (own q)) (ru != 3) W4 from by rw [hown]; rfl]
                    clear ho1 ho2 hl1 hl2 hp1 hp2
                    generalize round3 w nb q j (fromOf (own q)) (ru != 3) W4 = W7 at HM4 HL4 ⊢
                    have hsz7 := HM4.out.size
                    go_wp2_with (first | (go_at_call 4; refine (name_any _ _).mono ?_; rintro e w' ⟨rfl, rfl⟩) | (go_at_call 6; refine (key_any _ _).mono ?_; rintro e w' ⟨rfl, rfl⟩) | (at_builtin; refine wpList_append_lies _ rfl (.tmp 155) (.tmp 163) 54 rfl (w.heap.size + 8 + 3 * nb) 81 i81 _ 5 64 Ybaf.underlying54 hi81 hz81 hs81 hb81 rfl (by omega) u17 k ys rfl (HL4.out.want.alloc _) ⟨W7.heap.size, 0, none⟩ 1 1 (callCells (keyS q) (fromOf (own q)) (nameS j) ru) rfl rfl (by rw [hown]; exact World.news_of_block (cs := #[.string (keyS q), .string ⟨#[]⟩, .string (nameS j), .int .i64 ru, .bool false]) (t := 81) (fr := (0, 0)) (heap_alloc_new W7 _)) (by simp [Value.oneCell', callCells]) (by omega) (by unfold maxLen; omega) (by omega) (by simp; omega) (W7.heap.size + 1) (by simp) ?_; intro g cap' w8 hown8 hgrow8 hat8 hlt8))
                    have M8 := (HM4.out.alloc _).grown hgrow8 (fun b hb => own_ge HL4.out.want hb)
                    have L8 := (HL4.out.alloc (by omega) _).append (by simp; omega) hgrow8 hown8 (by simpa using hat8)
                    clear HM4 HL4 hgrow8 hown8 hat8 hlt8
                    go_roundw
                    case rel => exact ⟨k + 1, upd own q (some j), upd lf q (fromOf (own q)), upd pb q (ru != 3), ys ++ callCells (keyS q) (fromOf (own q)) (nameS j) ru, by omega, by go_num, shape_snoc HSh.out _ _ _ _, M8, L8⟩
                    case measure => simp [intOf]; omega
                  | true =>
                    have M2 : Hid (Mid w nb true own lf pb (fun k => .int .i64 (ownI (own k))) (fun k => .string (lf k)) (fun k => .bool (pb k)) (W1.alloc (.cells #[.string (nameS j), .int .i64 ru, .float .f64 0, .int .i64 0] 77))) := HM.out.alloc _
                    have L2 : Hid (Logs w nb true k ys k ys u17 (W1.alloc (.cells #[.string (nameS j), .int .i64 ru, .float .f64 0, .int .i64 0] 77))) := HL.out.alloc (by omega) _
                    have C2 : Hid (Core w.heap.size nb (.iface 53 (.pointer (some ⟨w.heap.size + 3, 0, none⟩))) own (owOf own lf) (plOf own pb) (W1.alloc (.cells #[.string (nameS j), .int .i64 ru, .float .f64 0, .int .i64 0] 77))) := HM.out.core.alloc _
                    obtain ⟨vl, v1, v2, v3, v4⟩ := HL.out.heard rfl
                    have HV : Hid ((W1.alloc (.cells #[.string (nameS j), .int .i64 ru, .float .f64 0, .int .i64 0] 77)).cell? ⟨w.heap.size + 3, 0, none⟩ = some vl ∧ (W1.alloc (.cells #[.string (nameS j), .int .i64 ru, .float .f64 0, .int .i64 0] 77)).frozen? ⟨w.heap.size + 3, 0, none⟩ = false ∧ (W1.alloc (.cells #[.string (nameS j), .int .i64 ru, .float .f64 0, .int .i64 0] 77)).ownsRow (w.heap.size + 8 + 3 * nb) 81 5 vl k ys) := ⟨((Fr.refl (fun _ => False) W1).alloc _).cell v1 id, (((Fr.refl (fun _ => False) W1).alloc _).frozen (World.block_lt_of_cell? _ _ v1) id).trans v2, v3.alloc _⟩
                    have HV4 : Hid (∀ g, vl.ownBlock = some g → u17.ownBlock ≠ some g) := v4
                    have HV3 : Hid (∀ g, vl.ownBlock = some g → w.heap.size + 8 + 3 * nb ≤ g ∧ g < W1.heap.size) := fun g hg => ⟨own_ge v3 hg, owns_lt v3 hg⟩
                    clear v1 v2 v3 v4
                    go_wp2_with (first | (go_at_call 4; refine (name_any _ _).mono ?_; rintro e w' ⟨rfl, rfl⟩) | (go_at_call 6; refine (key_any _ _).mono ?_; rintro e w' ⟨rfl, rfl⟩) | (go_at_call 5; refine (assign_ev w.heap.size nb q j W1.heap.size own lf pb ru _ C2.out hq3 hjn hnb3 (fun i h => M2.out.lt q i hq3 h) (by omega) (by simp) (by simp) (w.heap.size + 8 + 3 * nb) k vl ys HV.out.1 HV.out.2.1 HV.out.2.2 (by omega) (by simp; omega) (by omega)).mono ?_; rintro e w3 ⟨rfl, hC3, hF3⟩; have hFr := hF3.choose_spec.choose_spec.2.2.2.2; have M3 := mid_assign M2.out hC3 (lt_upd M2.out.lt hjn) hFr (fun b hb => by rcases hb with hb | hb | hb; unfold Turned at hb; omega; omega; have := (HV3.out b hb).1; omega); have hb3 := M3.bs j hjn; simp only [brk] at hb3 ⊢; have hd0 : w3.cell? ⟨W1.heap.size, 0, none⟩ = some (.string (nameS j)) := (hFr.cell (by simp) (by rintro (hb | hb | hb); unfold Turned at hb; dsimp only at hb; omega; dsimp only at hb; omega; have := (HV3.out _ hb).2; dsimp only at this; omega)); have hd1 : w3.cell? ⟨W1.heap.size, 1, none⟩ = some (.int .i64 ru) := (hFr.cell (by simp) (by rintro (hb | hb | hb); unfold Turned at hb; dsimp only at hb; omega; dsimp only at hb; omega; have := (HV3.out _ hb).2; dsimp only at this; omega))))
                    go_quiet ((go_at_call 4; exact Calls.quiet_of_same (name_same _ _)))
                    have M4 := M3.drewN nq
                    have L4 : Logs w nb true k ys (k + 1) (ys ++ callCells (keyS q) (fromOf (own q)) (nameS j) ru) u17 (w3.drewN nq) := (logs_assign_ev L2.out HV4.out hF3).drewN nq
                    clear C2 M2 L2 HM HL hC3 hF3 hFr M3 hb3 hd0 hd1 HV HV3 HV4
                    generalize w3.drewN nq = W4 at M4 L4 ⊢
                    obtain ⟨ho1, ho2⟩ := M4.owner hq3
                    obtain ⟨hl1, hl2⟩ := M4.left hq3
                    obtain ⟨hp1, hp2⟩ := M4.placed hq3
                    have HM4 : Hid _ := mid_round hq3 M4
                    have HL4 : Hid _ := logs_round (q := q) (j := j) (F := fromOf (own q)) (R := ru != 3) L4
                    clear M4 L4
                    go_upto_region 41 with fail
                    rw [show ((W4.setCell ⟨w.heap.size + 5 + 3 * nb, q, none⟩ (.int .i64 j)).setCell ⟨w.heap.size + 6 + 3 * nb, q, none⟩ (.string ⟨#[]⟩)).setCell ⟨w.heap.size + 7 + 3 * nb, q, none⟩ (.bool (ru != 3)) = round3 w nb q j (fromOf (own q)) (ru != 3) W4 from by rw [hown]; rfl]
                    clear ho1 ho2 hl1 hl2 hp1 hp2
                    generalize round3 w nb q j (fromOf (own q)) (ru != 3) W4 = W7 at HM4 HL4 ⊢
                    have hsz7 := HM4.out.size
                    go_wp2_with (first | (go_at_call 4; refine (name_any _ _).mono ?_; rintro e w' ⟨rfl, rfl⟩) | (go_at_call 6; refine (key_any _ _).mono ?_; rintro e w' ⟨rfl, rfl⟩) | (at_builtin; refine wpList_append_lies _ rfl (.tmp 155) (.tmp 163) 54 rfl (w.heap.size + 8 + 3 * nb) 81 i81 _ 5 64 Ybaf.underlying54 hi81 hz81 hs81 hb81 rfl (by omega) u17 k ys rfl (HL4.out.want.alloc _) ⟨W7.heap.size, 0, none⟩ 1 1 (callCells (keyS q) (fromOf (own q)) (nameS j) ru) rfl rfl (by rw [hown]; exact World.news_of_block (cs := #[.string (keyS q), .string ⟨#[]⟩, .string (nameS j), .int .i64 ru, .bool false]) (t := 81) (fr := (0, 0)) (heap_alloc_new W7 _)) (by simp [Value.oneCell', callCells]) (by omega) (by unfold maxLen; omega) (by omega) (by simp; omega) (W7.heap.size + 1) (by simp) ?_; intro g cap' w8 hown8 hgrow8 hat8 hlt8))
                    have M8 := (HM4.out.alloc _).grown hgrow8 (fun b hb => own_ge HL4.out.want hb)
                    have L8 := (HL4.out.alloc (by omega) _).append (by simp; omega) hgrow8 hown8 (by simpa using hat8)
                    clear HM4 HL4 hgrow8 hown8 hat8 hlt8
                    go_roundw
                    case rel => exact ⟨k + 1, upd own q (some j), upd lf q (fromOf (own q)), upd pb q (ru != 3), ys ++ callCells (keyS q) (fromOf (own q)) (nameS j) ru, by omega, by go_num, shape_snoc HSh.out _ _ _ _, M8, L8⟩
                    case measure => simp [intOf]; omega
                | some i =>
                  simp only [hown, ownI] at hco
                  go_upto_region 32 with (go_at_call 4; refine (name_any _ _).mono ?_; rintro e w' ⟨rfl, rfl⟩)
                  clear hco hj c0 c1 c2 hq
                  have HM1 := HM.out.alloc (.cells #[.int .u8 x, .int .u8 y, .int .u8 z] 74)
                  have HL1 := HL.out.alloc (by omega) (.cells #[.int .u8 x, .int .u8 y, .int .u8 z] 74)
                  clear HM HL hszM
                  generalize wr.alloc (.cells #[.int .u8 x, .int .u8 y, .int .u8 z] 74) = W1 at HM1 HL1 ⊢
                  have HM : Hid (Mid w nb ev own lf pb (fun k => .int .i64 (ownI (own k))) (fun k => .string (lf k)) (fun k => .bool (pb k)) W1) := HM1
                  have HL : Hid (Logs w nb ev k ys k ys u17 W1) := HL1
                  clear HM1 HL1
                  have hsz1 := HM.out.size
                  cases ev with
                  | false =>
                    have M2 : Hid (Mid w nb false own lf pb (fun k => .int .i64 (ownI (own k))) (fun k => .string (lf k)) (fun k => .bool (pb k)) (W1.alloc (.cells #[.string (nameS j), .int .i64 ru, .float .f64 0, .int .i64 0] 77))) := HM.out.alloc _
                    have L2 : Hid (Logs w nb false k ys k ys u17 (W1.alloc (.cells #[.string (nameS j), .int .i64 ru, .float .f64 0, .int .i64 0] 77))) := HL.out.alloc (by omega) _
                    have C2 : Hid (Core w.heap.size nb .nilIface own (owOf own lf) (plOf own pb) (W1.alloc (.cells #[.string (nameS j), .int .i64 ru, .float .f64 0, .int .i64 0] 77))) := HM.out.core.alloc _
                    go_wp2_with (first | (go_at_call 4; refine (name_any _ _).mono ?_; rintro e w' ⟨rfl, rfl⟩) | (go_at_call 6; refine (key_any _ _).mono ?_; rintro e w' ⟨rfl, rfl⟩) | (go_at_call 5; refine (assign_nil w.heap.size nb q j W1.heap.size own lf pb ru _ C2.out hq3 hjn hnb3 (fun i h => M2.out.lt q i hq3 h) (by omega) (by simp) (by simp)).mono ?_; rintro e w3 ⟨rfl, hC3, hF3⟩; have M3 := mid_assign M2.out hC3 (lt_upd M2.out.lt hjn) hF3 (fun b hb => by unfold Turned at hb; omega); have hb3 := M3.bs j hjn; simp only [brk] at hb3 ⊢; have hd0 : w3.cell? ⟨W1.heap.size, 0, none⟩ = some (.string (nameS j)) := (hF3.cell (by simp) (by unfold Turned; dsimp only; omega)); have hd1 : w3.cell? ⟨W1.heap.size, 1, none⟩ = some (.int .i64 ru) := (hF3.cell (by simp) (by unfold Turned; dsimp only; omega))))
                    go_quiet ((go_at_call 4; exact Calls.quiet_of_same (name_same _ _)))
                    have M4 := M3.drewN nq
                    have L4 : Logs w nb false k ys (k + 1) (ys ++ callCells (keyS q) (fromOf (own q)) (nameS j) ru) u17 (w3.drewN nq) := (L2.out.assignNil hF3 (by simp; omega) (fun b hb => by unfold Turned at hb; omega) _ _).drewN nq
                    clear C2 M2 L2 HM HL hC3 hF3 M3 hb3 hd0 hd1
                    generalize w3.drewN nq = W4 at M4 L4 ⊢
                    obtain ⟨ho1, ho2⟩ := M4.owner hq3
                    obtain ⟨hl1, hl2⟩ := M4.left hq3
                    obtain ⟨hp1, hp2⟩ := M4.placed hq3
                    have HM4 : Hid _ := mid_round hq3 M4
                    have HL4 : Hid _ := logs_round (q := q) (j := j) (F := fromOf (own q)) (R := ru != 3) L4
                    clear M4 L4
                    go_upto_region 41 with fail
                    rw [show ((W4.setCell ⟨w.heap.size + 5 + 3 * nb, q, none⟩ (.int .i64 j)).setCell ⟨w.heap.size + 6 + 3 * nb, q, none⟩ (.string (nameS i))).setCell ⟨w.heap.size + 7 + 3 * nb, q, none⟩ (.bool (ru != 3)) = round3 w nb q j (fromOf (own q)) (ru != 3) W4 from by rw [hown]; rfl]
                    clear ho1 ho2 hl1 hl2 hp1 hp2
                    generalize round3 w nb q j (fromOf (own q)) (ru != 3) W4 = W7 at HM4 HL4 ⊢
                    have hsz7 := HM4.out.size
                    go_wp2_with (first | (go_at_call 4; refine (name_any _ _).mono ?_; rintro e w' ⟨rfl, rfl⟩) | (go_at_call 6; refine (key_any _ _).mono ?_; rintro e w' ⟨rfl, rfl⟩) | (at_builtin; refine wpList_append_lies _ rfl (.tmp 155) (.tmp 163) 54 rfl (w.heap.size + 8 + 3 * nb) 81 i81 _ 5 64 Ybaf.underlying54 hi81 hz81 hs81 hb81 rfl (by omega) u17 k ys rfl (HL4.out.want.alloc _) ⟨W7.heap.size, 0, none⟩ 1 1 (callCells (keyS q) (fromOf (own q)) (nameS j) ru) rfl rfl (by rw [hown]; exact World.news_of_block (cs := #[.string (keyS q), .string (nameS i), .string (nameS j), .int .i64 ru, .bool false]) (t := 81) (fr := (0, 0)) (heap_alloc_new W7 _)) (by simp [Value.oneCell', callCells]) (by omega) (by unfold maxLen; omega) (by omega) (by simp; omega) (W7.heap.size + 1) (by simp) ?_; intro g cap' w8 hown8 hgrow8 hat8 hlt8))
                    have M8 := (HM4.out.alloc _).grown hgrow8 (fun b hb => own_ge HL4.out.want hb)
                    have L8 := (HL4.out.alloc (by omega) _).append (by simp; omega) hgrow8 hown8 (by simpa using hat8)
                    clear HM4 HL4 hgrow8 hown8 hat8 hlt8
                    go_roundw
                    case rel => exact ⟨k + 1, upd own q (some j), upd lf q (fromOf (own q)), upd pb q (ru != 3), ys ++ callCells (keyS q) (fromOf (own q)) (nameS j) ru, by omega, by go_num, shape_snoc HSh.out _ _ _ _, M8, L8⟩
                    case measure => simp [intOf]; omega
                  | true =>
                    have M2 : Hid (Mid w nb true own lf pb (fun k => .int .i64 (ownI (own k))) (fun k => .string (lf k)) (fun k => .bool (pb k)) (W1.alloc (.cells #[.string (nameS j), .int .i64 ru, .float .f64 0, .int .i64 0] 77))) := HM.out.alloc _
                    have L2 : Hid (Logs w nb true k ys k ys u17 (W1.alloc (.cells #[.string (nameS j), .int .i64 ru, .float .f64 0, .int .i64 0] 77))) := HL.out.alloc (by omega) _
                    have C2 : Hid (Core w.heap.size nb (.iface 53 (.pointer (some ⟨w.heap.size + 3, 0, none⟩))) own (owOf own lf) (plOf own pb) (W1.alloc (.cells #[.string (nameS j), .int .i64 ru, .float .f64 0, .int .i64 0] 77))) := HM.out.core.alloc _
                    obtain ⟨vl, v1, v2, v3, v4⟩ := HL.out.heard rfl
                    have HV : Hid ((W1.alloc (.cells #[.string (nameS j), .int .i64 ru, .float .f64 0, .int .i64 0] 77)).cell? ⟨w.heap.size + 3, 0, none⟩ = some vl ∧ (W1.alloc (.cells #[.string (nameS j), .int .i64 ru, .float .f64 0, .int .i64 0] 77)).frozen? ⟨w.heap.size + 3, 0, none⟩ = false ∧ (W1.alloc (.cells #[.string (nameS j), .int .i64 ru, .float .f64 0, .int .i64 0] 77)).ownsRow (w.heap.size + 8 + 3 * nb) 81 5 vl k ys) := ⟨((Fr.refl (fun _ => False) W1).alloc _).cell v1 id, (((Fr.refl (fun _ => False) W1).alloc _).frozen (World.block_lt_of_cell? _ _ v1) id).trans v2, v3.alloc _⟩
                    have HV4 : Hid (∀ g, vl.ownBlock = some g → u17.ownBlock ≠ some g) := v4
                    have HV3 : Hid (∀ g, vl.ownBlock = some g → w.heap.size + 8 + 3 * nb ≤ g ∧ g < W1.heap.size) := fun g hg => ⟨own_ge v3 hg, owns_lt v3 hg⟩
                    clear v1 v2 v3 v4
                    go_wp2_with (first | (go_at_call 4; refine (name_any _ _).mono ?_; rintro e w' ⟨rfl, rfl⟩) | (go_at_call 6; refine (key_any _ _).mono ?_; rintro e w' ⟨rfl, rfl⟩) | (go_at_call 5; refine (assign_ev w.heap.size nb q j W1.heap.size own lf pb ru _ C2.out hq3 hjn hnb3 (fun i h => M2.out.lt q i hq3 h) (by omega) (by simp) (by simp) (w.heap.size + 8 + 3 * nb) k vl ys HV.out.1 HV.out.2.1 HV.out.2.2 (by omega) (by simp; omega) (by omega)).mono ?_; rintro e w3 ⟨rfl, hC3, hF3⟩; have hFr := hF3.choose_spec.choose_spec.2.2.2.2; have M3 := mid_assign M2.out hC3 (lt_upd M2.out.lt hjn) hFr (fun b hb => by rcases hb with hb | hb | hb; unfold Turned at hb; omega; omega; have := (HV3.out b hb).1; omega); have hb3 := M3.bs j hjn; simp only [brk] at hb3 ⊢; have hd0 : w3.cell? ⟨W1.heap.size, 0, none⟩ = some (.string (nameS j)) := (hFr.cell (by simp) (by rintro (hb | hb | hb); unfold Turned at hb; dsimp only at hb; omega; dsimp only at hb; omega; have := (HV3.out _ hb).2; dsimp only at this; omega)); have hd1 : w3.cell? ⟨W1.heap.size, 1, none⟩ = some (.int .i64 ru) := (hFr.cell (by simp) (by rintro (hb | hb | hb); unfold Turned at hb; dsimp only at hb; omega; dsimp only at hb; omega; have := (HV3.out _ hb).2; dsimp only at this; omega))))
                    go_quiet ((go_at_call 4; exact Calls.quiet_of_same (name_same _ _)))
                    have M4 := M3.drewN nq
                    have L4 : Logs w nb true k ys (k + 1) (ys ++ callCells (keyS q) (fromOf (own q)) (nameS j) ru) u17 (w3.drewN nq) := (logs_assign_ev L2.out HV4.out hF3).drewN nq
                    clear C2 M2 L2 HM HL hC3 hF3 hFr M3 hb3 hd0 hd1 HV HV3 HV4
                    generalize w3.drewN nq = W4 at M4 L4 ⊢
                    obtain ⟨ho1, ho2⟩ := M4.owner hq3
                    obtain ⟨hl1, hl2⟩ := M4.left hq3
                    obtain ⟨hp1, hp2⟩ := M4.placed hq3
                    have HM4 : Hid _ := mid_round hq3 M4
                    have HL4 : Hid _ := logs_round (q := q) (j := j) (F := fromOf (own q)) (R := ru != 3) L4
                    clear M4 L4
                    go_upto_region 41 with fail
                    rw [show ((W4.setCell ⟨w.heap.size + 5 + 3 * nb, q, none⟩ (.int .i64 j)).setCell ⟨w.heap.size + 6 + 3 * nb, q, none⟩ (.string (nameS i))).setCell ⟨w.heap.size + 7 + 3 * nb, q, none⟩ (.bool (ru != 3)) = round3 w nb q j (fromOf (own q)) (ru != 3) W4 from by rw [hown]; rfl]
                    clear ho1 ho2 hl1 hl2 hp1 hp2
                    generalize round3 w nb q j (fromOf (own q)) (ru != 3) W4 = W7 at HM4 HL4 ⊢
                    have hsz7 := HM4.out.size
                    go_wp2_with (first | (go_at_call 4; refine (name_any _ _).mono ?_; rintro e w' ⟨rfl, rfl⟩) | (go_at_call 6; refine (key_any _ _).mono ?_; rintro e w' ⟨rfl, rfl⟩) | (at_builtin; refine wpList_append_lies _ rfl (.tmp 155) (.tmp 163) 54 rfl (w.heap.size + 8 + 3 * nb) 81 i81 _ 5 64 Ybaf.underlying54 hi81 hz81 hs81 hb81 rfl (by omega) u17 k ys rfl (HL4.out.want.alloc _) ⟨W7.heap.size, 0, none⟩ 1 1 (callCells (keyS q) (fromOf (own q)) (nameS j) ru) rfl rfl (by rw [hown]; exact World.news_of_block (cs := #[.string (keyS q), .string (nameS i), .string (nameS j), .int .i64 ru, .bool false]) (t := 81) (fr := (0, 0)) (heap_alloc_new W7 _)) (by simp [Value.oneCell', callCells]) (by omega) (by unfold maxLen; omega) (by omega) (by simp; omega) (W7.heap.size + 1) (by simp) ?_; intro g cap' w8 hown8 hgrow8 hat8 hlt8))
                    have M8 := (HM4.out.alloc _).grown hgrow8 (fun b hb => own_ge HL4.out.want hb)
                    have L8 := (HL4.out.alloc (by omega) _).append (by simp; omega) hgrow8 hown8 (by simpa using hat8)
                    clear HM4 HL4 hgrow8 hown8 hat8 hlt8
                    go_roundw
                    case rel => exact ⟨k + 1, upd own q (some j), upd lf q (fromOf (own q)), upd pb q (ru != 3), ys ++ callCells (keyS q) (fromOf (own q)) (nameS j) ru, by omega, by go_num, shape_snoc HSh.out _ _ _ _, M8, L8⟩
                    case measure => simp [intOf]; omega
              · have hkl : len = k := by omega
                subst hkl
                have HM : Hid (Mid w nb ev own lf pb (fun k => .int .i64 (ownI (own k))) (fun k => .string (lf k)) (fun k => .bool (pb k)) wr) := hM
                have HL : Hid (Logs w nb ev len ys len ys u17 wr) := hL
                have hm30 := hM.core.m
                have hr33 := hM.core.r
                have hln : (Builtin.len_ #[24] 3 #[.map (some w.heap.size)]).run Ybaf.prog wr = .ok (.int .i64 nb) wr := by rw [hM.core.names.len Ybaf.underlying24, cnt_names _ hnb1 hnb3]
                clear hM hL
                go_wp2_with fail
                clear hm30 hr33 hln
                go_loopw [26, 27] (fun o i wx => ∃ k : Nat, k ≤ 3 ∧ i = .int .i64 k ∧ o = .int .i64 (upTo (fun k => (own k).isSome) k) ∧ Mid w nb ev own lf pb (fun k => .int .i64 (ownI (own k))) (fun k => .string (lf k)) (fun k => .bool (pb k)) wx ∧ Logs w nb ev len ys len ys u17 wx) (fun _ i _ => 3 - (intOf i).toNat)
                case atStart => exact ⟨0, Nat.zero_le _, rfl, rfl, HM.out, HL.out⟩
                case round =>
                  clear HM HL
                  obtain ⟨k, hk, rfl, rfl, hM, hL⟩ := hrel
                  have HM : Hid (Mid w nb ev own lf pb (fun k => .int .i64 (ownI (own k))) (fun k => .string (lf k)) (fun k => .bool (pb k)) wr) := hM
                  have HL : Hid (Logs w nb ev len ys len ys u17 wr) := hL
                  have ho32 := hM.core.o
                  have hup := upTo_le (fun k => (own k).isSome) k
                  by_cases hlt : k < 3
                  · have hco := (hM.owner hlt).1
                    cases hown : own k with
                    | none =>
                      have hlk := hM.core.owners.look keyFam Ybaf.underlying24 (zero58 wr) hlt true
                      simp only [hown, ownI] at hco
                      simp only [hown, Option.map_none, Option.getD_none, Option.isSome_none, if_true] at hlk
                      have HU : Hid (upTo (fun k => (own k).isSome) (k + 1) = upTo (fun k => (own k).isSome) k) := by show _ = _; simp [upTo, hown]
                      clear hM hL
                      go_wp2_with (go_at_call 6; refine (key_any _ _).mono ?_; rintro e w' ⟨rfl, rfl⟩)
                      go_roundw
                      case rel => exact ⟨k + 1, by omega, by go_num, by rw [HU.out], HM.out, HL.out⟩
                      case measure => simp [intOf]; omega
                    | some i =>
                      have hi := hM.lt k i hlt hown
                      have hlk : ∀ n, (Instr.lookup 24 (.map (some (w.heap.size + 1))) (.string (keyS k)) false).run Ybaf.prog (wr.drewN n) = .ok (.pointer (some ⟨w.heap.size + 7 + 3 * i, 0, none⟩)) (wr.drewN n) := fun n => by simpa [hown, brk] using (hM.core.drewN n).owners.look keyFam Ybaf.underlying24 (zero58 _) hlt false
                      have hbi := hM.bs i hi
                      simp only [hown, ownI] at hco
                      simp only [brk] at hbi
                      have hi0 : (0 : Int) ≤ (i : Int) := by omega
                      have hi1 : (i : Int) < (nb : Int) := by omega
                      have hk0 : (0 : Int) ≤ (k : Int) := by omega
                      have hk1 : (k : Int) < 3 := by omega
                      have HU : Hid (upTo (fun k => (own k).isSome) (k + 1) = upTo (fun k => (own k).isSome) k + 1) := by show _ = _; simp [upTo, hown]
                      clear hM hL
                      go_wp2_with (go_at_call 6; refine (key_any _ _).mono ?_; rintro e w' ⟨rfl, rfl⟩)
                      go_quiet (fail)
                      go_wp2_with fail
                      go_roundw
                      case rel => exact ⟨k + 1, by omega, by go_num, by rw [HU.out]; go_num, HM.out.drewN _, HL.out.drewN _⟩
                      case measure => simp [intOf]; omega
                  · have hk3 : k = 3 := by omega
                    subst hk3
                    have hln : (Builtin.len_ #[24] 3 #[.map (some (w.heap.size + 1))]).run Ybaf.prog wr = .ok (.int .i64 (upTo (fun k => (own k).isSome) 3)) wr := by rw [hM.core.owners.len Ybaf.underlying24, cnt_owners]
                    clear hM hL
                    rw [show ((3 : Nat) : Int) = 3 from rfl]
                    go_wp2_with fail
                    clear hln
                    go_loopw [31] (fun i wx => ∃ m : Nat, m ≤ nb ∧ i = .int .i64 m ∧ Mid w nb ev own lf pb (fun k => .int .i64 (ownI (own k))) (fun k => .string (lf k)) (fun k => .bool (pb k)) wx ∧ Logs w nb ev len ys len ys u17 wx) (fun i _ => nb - (intOf i).toNat)
                    case atStart => exact ⟨0, Nat.zero_le _, rfl, HM.out, HL.out⟩
                    case round =>
                      clear HM HL
                      obtain ⟨m, hm, rfl, hM, hL⟩ := hrel
                      have HM : Hid (Mid w nb ev own lf pb (fun k => .int .i64 (ownI (own k))) (fun k => .string (lf k)) (fun k => .bool (pb k)) wr) := hM
                      have HL : Hid (Logs w nb ev len ys len ys u17 wr) := hL
                      by_cases hmn : m < nb
                      · have hbm := hM.bs m hmn
                        simp only [brk] at hbm
                        clear hM hL
                        go_wp2_with fail
                        clear hbm
                        go_loopw [33, 34, 35] (fun no np i wx => ∃ k : Nat, k ≤ 3 ∧ i = .int .i64 k ∧ no = .int .i64 (upTo (fun k => decide (own k = some m)) k) ∧ np = .int .i64 (upTo (fun k => decide (own k = some m) && pb k) k) ∧ Mid w nb ev own lf pb (fun k => .int .i64 (ownI (own k))) (fun k => .string (lf k)) (fun k => .bool (pb k)) wx ∧ Logs w nb ev len ys len ys u17 wx) (fun _ _ i _ => 3 - (intOf i).toNat)
                        case atStart => exact ⟨0, Nat.zero_le _, rfl, rfl, rfl, HM.out, HL.out⟩
                        case round =>
                          clear HM HL
                          obtain ⟨k, hk, rfl, rfl, rfl, hM, hL⟩ := hrel
                          have HM : Hid (Mid w nb ev own lf pb (fun k => .int .i64 (ownI (own k))) (fun k => .string (lf k)) (fun k => .bool (pb k)) wr) := hM
                          have HL : Hid (Logs w nb ev len ys len ys u17 wr) := hL
                          have hu1 := upTo_le (fun k => decide (own k = some m)) k
                          have hu2 := upTo_le (fun k => decide (own k = some m) && pb k) k
                          by_cases hlt : k < 3
                          · have hco : ∀ o, (wr.alloc o).cell? ⟨w.heap.size + 5 + 3 * nb, k, none⟩ = some (.int .i64 (ownI (own k))) := fun o => ((hM.alloc o).owner hlt).1
                            have hlo : ∀ o, (wr.alloc o).cell? ⟨w.heap.size + 6 + 3 * nb, k, none⟩ = some (.string (lf k)) := fun o => ((hM.alloc o).left hlt).1
                            have hpo : ∀ o, (wr.alloc o).cell? ⟨w.heap.size + 7 + 3 * nb, k, none⟩ = some (.bool (pb k)) := fun o => ((hM.alloc o).placed hlt).1
                            have hc6 := hM.core.owc m hmn
                            have hc7 := hM.core.plc m hmn
                            have hl6 := (hM.core.owm m hmn).look keyFam Ybaf.underlying60 (zero9 wr) hlt true
                            have hl7 := (hM.core.plm m hmn).look keyFam Ybaf.underlying40 (zero41 wr) hlt true
                            have HM2 := HM.out.alloc (.cells #[] 41)
                            have HL2 := HL.out.alloc (by have := hM.size; omega) (.cells #[] 41)
                            have HN : Hid (Mid w nb ev own lf pb (fun k => .int .i64 (ownI (own k))) (fun k => .string (lf k)) (fun k => .bool (pb k)) (wr.alloc (.cells #[] 41)) ∧ Logs w nb ev len ys len ys u17 (wr.alloc (.cells #[] 41))) := ⟨HM2, HL2⟩
                            by_cases hom : own k = some m
                            · simp only [hom, ownI] at hco
                              have e1 : owOf own lf m k = some (.string (lf k)) := by simp [owOf, hom]
                              simp only [e1, Option.getD_some, Option.isSome_some, if_true] at hl6
                              have HU1 : Hid (upTo (fun k => decide (own k = some m)) (k + 1) = upTo (fun k => decide (own k = some m)) k + 1) := by show _ = _; simp [upTo, hom]
                              cases hpb : pb k with
                              | false =>
                                simp only [hpb] at hpo
                                have e2 : plOf own pb m k = none := by simp [plOf, hpb]
                                simp only [e2, Option.getD_none, Option.isSome_none, if_true] at hl7
                                have HU2 : Hid (upTo (fun k => decide (own k = some m) && pb k) (k + 1) = upTo (fun k => decide (own k = some m) && pb k) k) := by show _ = _; simp [upTo, hpb]
                                clear hM hL HM HL HM2 HL2 e1 e2
                                go_wp2_with (go_at_call 6; refine (key_any _ _).mono ?_; rintro e w' ⟨rfl, rfl⟩)
                                go_roundw
                                case rel => exact ⟨k + 1, by omega, by go_num, by rw [HU1.out]; go_num, by rw [HU2.out], HN.out.1, HN.out.2⟩
                                case measure => simp [intOf]; omega
                              | true =>
                                simp only [hpb] at hpo
                                have e2 : plOf own pb m k = some (.agg #[]) := by simp [plOf, hpb, hom]
                                simp only [e2, Option.getD_some, Option.isSome_some, if_true] at hl7
                                have HU2 : Hid (upTo (fun k => decide (own k = some m) && pb k) (k + 1) = upTo (fun k => decide (own k = some m) && pb k) k + 1) := by show _ = _; simp [upTo, hpb, hom]
                                clear hM hL HM HL HM2 HL2 e1 e2
                                go_wp2_with (go_at_call 6; refine (key_any _ _).mono ?_; rintro e w' ⟨rfl, rfl⟩)
                                go_roundw
                                case rel => exact ⟨k + 1, by omega, by go_num, by rw [HU1.out]; go_num, by rw [HU2.out]; go_num, HN.out.1, HN.out.2⟩
                                case measure => simp [intOf]; omega
                            · have e1 : owOf own lf m k = none := by simp [owOf, hom]
                              have e2 : plOf own pb m k = none := by simp [plOf, hom]
                              simp only [e1, Option.getD_none, Option.isSome_none, if_true] at hl6
                              simp only [e2, Option.getD_none, Option.isSome_none, if_true] at hl7
                              have hne := ownI_ne hom
                              have HU1 : Hid (upTo (fun k => decide (own k = some m)) (k + 1) = upTo (fun k => decide (own k = some m)) k) := by show _ = _; simp [upTo, hom]
                              have HU2 : Hid (upTo (fun k => decide (own k = some m) && pb k) (k + 1) = upTo (fun k => decide (own k = some m) && pb k) k) := by show _ = _; simp [upTo, hom]
                              clear hM hL HM HL HM2 HL2 e1 e2 hom
                              go_wp2_with (go_at_call 6; refine (key_any _ _).mono ?_; rintro e w' ⟨rfl, rfl⟩)
                              go_roundw
                              case rel => exact ⟨k + 1, by omega, by go_num, by rw [HU1.out], by rw [HU2.out], HN.out.1, HN.out.2⟩
                              case measure => simp [intOf]; omega
                          · have hk3 : k = 3 := by omega
                            subst hk3
                            have hc6 := hM.core.owc m hmn
                            have hc7 := hM.core.plc m hmn
                            have hn6 : (Builtin.len_ #[60] 3 #[.map (some (w.heap.size + 5 + 3 * m))]).run Ybaf.prog wr = .ok (.int .i64 (upTo (fun k => decide (own k = some m)) 3)) wr := by rw [(hM.core.owm m hmn).len Ybaf.underlying60, cnt_ow]
                            have hn7 : (Builtin.len_ #[40] 3 #[.map (some (w.heap.size + 6 + 3 * m))]).run Ybaf.prog wr = .ok (.int .i64 (upTo (fun k => decide (own k = some m) && pb k) 3)) wr := by rw [(hM.core.plm m hmn).len Ybaf.underlying40, cnt_pl]
                            clear hM hL
                            rw [show ((3 : Nat) : Int) = 3 from rfl]
                            go_wp2_with fail
                            go_roundw
                            case rel => exact ⟨m + 1, by omega, by go_num, HM.out, HL.out⟩
                            case measure => simp [intOf]; omega
                      · have hmb : nb = m := by omega
                        subst hmb
                        have HB : Hid (Below w.heap.size w wr) := hM.below
                        cases ev with
                        | false =>
                          have hd := hL.deaf rfl
                          clear hM hL HM HL
                          go_wp2_with fail
                          go_ret
                          exact ⟨rfl, HB.out⟩
                        | true =>
                          obtain ⟨vl, hcl, _, hvl, _⟩ := hL.heard rfl
                          have hvw := hL.want
                          obtain ⟨al, capl, rfl, fl⟩ := row_form hvl
                          obtain ⟨aw, capw, hwe, fw⟩ := row_form hvw
                          subst hwe
                          have HR : Hid (wr.ownsRow (w.heap.size + 8 + 3 * nb) 81 5 (.slice al len capl) len ys ∧ wr.ownsRow (w.heap.size + 8 + 3 * nb) 81 5 (.slice aw len capw) len ys) := ⟨hvl, hvw⟩
                          have HF : Hid ((0 < len → ∃ g, al = some ⟨g, 0, none⟩) ∧ (0 < len → ∃ g, aw = some ⟨g, 0, none⟩)) := ⟨fl, fw⟩
                          clear hM hL HM HL hvl hvw fl fw
                          go_wp2_with fail
                          go_loopw [41] (fun i wx => ∃ k n : Nat, k ≤ len ∧ i = .int .i64 k ∧ wx = wr.drewN n) (fun i _ => len - (intOf i).toNat)
                          case atStart => exact ⟨0, 0, Nat.zero_le _, rfl, rfl⟩
                          case round =>
                            obtain ⟨k, n, hk, rfl, rfl⟩ := hrel
                            by_cases hlt : k < len
                            · obtain ⟨g1, rfl⟩ := HF.out.1 (by omega)
                              obtain ⟨g2, rfl⟩ := HF.out.2 (by omega)
                              obtain ⟨bu, fr, br, ru, s0, s1, s2, s3, s4⟩ := HSh.out.2 k hlt
                              have x0 := row_cells HR.out.1 hlt (show 0 < 5 by omega) s0
                              have x1 := row_cells HR.out.1 hlt (show 1 < 5 by omega) s1
                              have x2 := row_cells HR.out.1 hlt (show 2 < 5 by omega) s2
                              have x3 := row_cells HR.out.1 hlt (show 3 < 5 by omega) s3
                              have x4 := row_cells HR.out.1 hlt (show 4 < 5 by omega) s4
                              have y0 := row_cells HR.out.2 hlt (show 0 < 5 by omega) s0
                              have y1 := row_cells HR.out.2 hlt (show 1 < 5 by omega) s1
                              have y2 := row_cells HR.out.2 hlt (show 2 < 5 by omega) s2
                              have y3 := row_cells HR.out.2 hlt (show 3 < 5 by omega) s3
                              have y4 := row_cells HR.out.2 hlt (show 4 < 5 by omega) s4
                              simp only [Nat.add_zero] at x0 y0
                              have hk0 : (0 : Int) ≤ (k : Int) := by omega
                              have hk1 : (k : Int) < (len : Int) := by omega
                              clear s0 s1 s2 s3 s4
                              go_wp2_with fail
                              go_quiet (fail)
                              go_wp2_with fail
                              go_roundw
                              case rel => exact ⟨k + 1, n + nq, by omega, by go_num, rfl⟩
                              case measure => simp [intOf]; omega
                            · go_wp2_with fail
                              go_ret
                              exact ⟨rfl, below_drewN HB.out _⟩
end Go.Proofs.YbulkchjmFmt
