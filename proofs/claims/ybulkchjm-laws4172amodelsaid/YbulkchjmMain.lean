/-
  LawS4172AModel: the walk.
-/
import Derived.Test.YbulkchjmStep
import Derived.Deep.CutBlock
namespace Go.Proofs.Ybulkchjm
open Go.RowKit

set_option maxRecDepth 100000 in
set_option maxHeartbeats 1000000 in
theorem main_walk (qm qb pq : Int) (a : Option Addr) (len cap : Nat) (w : World) (hq0 : qm ≤ 9223372036854775807) (hq1 : qb ≤ 9223372036854775807) (hp0 : 0 ≤ pq) (hp1 : pq ≤ 255) (hlen : len ≤ 1024) (hst : Steps w a len) :
    Calls Yba.prog 3 #[.int .i64 qm, .int .i64 qb, .int .u8 pq, .slice a len cap] w fun e w' => e = .returned (.bool true) ∧ Below w.heap.size w w' := by
  have HST : Hid (Steps w a len) := hst
  clear hst
  have hmf : ∀ (fn : Fn) (first cap : Array Value) (w : World), (Instr.makeFunc fn first cap).run Yba.prog w = .ok (.func fn first cap) w := fun _ _ _ _ => rfl
  have HR1 : Hid (Rem (quotaF qm) (quotaF qm)) := quotaF_rem hq0
  have HR2 : Hid (Rem (quotaF qb) (quotaF qb)) := quotaF_rem hq1
  go_enter Yba.func3, Yba.ntmps3
  go_wp2_with (go_at_call 4; refine (quota_any _ _).mono ?_; rintro e w' ⟨rfl, rfl⟩)
  rw [show w.heap.size + 1 + 1 + 1 = w.heap.size + 3 from rfl, show w.heap.size + 1 + 1 = w.heap.size + 2 from rfl]
  have HRun : Hid (Run w (1 + pq % 8) (quotaF qm) (quotaF qb) 0 (quotaF qm) (quotaF qb) 0 0 0 ((((w.alloc (Obj.cells #[.int .i64 0] 24)).alloc (Obj.cells #[.int .i64 0] 3)).alloc (Obj.cells #[.int .u64 0, .int .i64 0, .pointer none] 28)).alloc
      (Obj.cells #[.int .i64 (1 + pq % 8), clkV (w.heap.size + 1) (w.heap.size + 2) w.heap.size, .int .u64 0, .int .i64 0, .pointer none, .int .i32 0, .int .u32 0, .int .i64 0, .int .i64 (quotaF qm), .int .i64 (quotaF qm), .int .i64 (quotaF qb), .int .i64 (quotaF qb)] 42))) := run_start w _ _ _ HR1.out HR2.out
  have hper0 : 1 ≤ 1 + pq % 8 := by omega
  have hper1 : 1 + pq % 8 ≤ 8 := by omega
  clear HR1 HR2 hmf
  generalize ((((w.alloc (Obj.cells #[.int .i64 0] 24)).alloc (Obj.cells #[.int .i64 0] 3)).alloc (Obj.cells #[.int .u64 0, .int .i64 0, .pointer none] 28)).alloc
      (Obj.cells #[.int .i64 (1 + pq % 8), clkV (w.heap.size + 1) (w.heap.size + 2) w.heap.size, .int .u64 0, .int .i64 0, .pointer none, .int .i32 0, .int .u32 0, .int .i64 0, .int .i64 (quotaF qm), .int .i64 (quotaF qm), .int .i64 (quotaF qb), .int .i64 (quotaF qb)] 42)) = W0 at HRun ⊢
  generalize quotaF qm = mq at HRun ⊢
  generalize quotaF qb = bq at HRun ⊢
  generalize 1 + pq % 8 = per at HRun hper0 hper1 ⊢
  go_loopw [17, 18, 19, 20] (fun v17 v18 v19 i wr => ∃ (k : Nat) (mr br cur c T : Int), k ≤ len ∧ i = .int .i64 k ∧ v17 = .int .i64 mr ∧ v18 = .int .i64 br ∧ v19 = .int .i64 cur ∧ Run w per mq bq k mr br cur c T wr) (fun _ _ _ i _ => len - (intOf i).toNat)
  case atStart => exact ⟨0, mq, bq, 0, 0, 0, Nat.zero_le _, rfl, rfl, rfl, rfl, HRun.out⟩
  case round =>
    clear HRun
    obtain ⟨k, mr, br, cur, c, T, hk, rfl, rfl, rfl, rfl, hR⟩ := hrel
    have HR : Hid (Run w per mq bq k mr br cur c T wr) := hR
    by_cases hlt : k < len
    · obtain ⟨b, off, x, y, z, rfl, c0, c1, c2, x0, x1, y0, y1, z0, z1, hbw⟩ := HST.out.at hR.below hlt
      have hsz := hR.size
      have n1 := hR.clk.cn
      have n2 := hR.clk.zn
      have n3 := hR.clk.cc
      have l1 : w.heap.size < wr.heap.size := by omega
      have l3 : w.heap.size + 1 < wr.heap.size := by omega
      have e1 := World.new_ne wr _ n1
      have e3 := World.new_ne wr _ n3
      clear hR
      go_upto_region 20 with fail
      clear n1 n2 n3 l1 l3 e1 e3 c0 c1 c2
      obtain ⟨hL1, hC1, hB1, hS1, s0, s1, s2⟩ := HR.out.step x y z
      unfold stepW at hL1 hC1 hB1 hS1 s0 s1 s2
      have hRm := HR.out.m
      have hRb := HR.out.b
      have hu0 := HR.out.u0
      have hu1 := HR.out.u1
      have hc0 := HR.out.c0
      have hc1 := HR.out.c1
      clear HR
      generalize ((wr.setCell ⟨w.heap.size, 0, none⟩ (.int .i64 x)).alloc (.cells #[.int .i16 x, .int .i64 y, .int .i64 z] 45)) = W at hL1 hC1 hB1 hS1 s0 s1 s2 ⊢
      generalize wr.heap.size = S at hsz hS1 s0 s1 s2 ⊢
      have hpb := tdiv_bounds hper0 x0 x1
      obtain ⟨p, hp⟩ : ∃ p : Int, Int.tdiv x per = p := ⟨_, rfl⟩
      rw [hp] at hpb
      obtain ⟨hpb0, hpb1⟩ := hpb
      have htry := try_any y z p hL1 hC1 (by omega) (by omega) (by omega) (by omega) (by omega) hp hper0 hper1 x0 x1 hc0 (by omega) hu0 hu1 hRm hRb y1 z1
      have HRm : Hid (Rem mq mr) := hRm
      have HRb : Hid (Rem bq br) := hRb
      clear hL1 hC1 hRm hRb
      go_wp2_with fail
      refine htry.mono ?_
      rintro e w2 ⟨got, dc, cur', mr', br', hV, rfl, hL2, hC2, hF2⟩
      have hcell : ∀ j v, W.cell? ⟨S, j, none⟩ = some v → w2.cell? ⟨S, j, none⟩ = some v := fun j v h => hF2.cell h (by dsimp only; omega)
      replace s0 := hcell _ _ s0
      replace s1 := hcell _ _ s1
      replace s2 := hcell _ _ s2
      have hB2 : Below w.heap.size w w2 := hB1.trans (hF2.below (by have := hB1.size; omega) (by intro k hk; omega))
      obtain ⟨hm', hb', hu0', hu1', hd0, hd1⟩ := hV.after HRm.out HRb.out y1 z1 hu0 hu1 hpb1
      have HV : Hid (Verdict mq mr bq br cur p y z got dc cur' mr' br') := hV
      have HN : Hid (Lim w2 (w.heap.size + 3) per (clkV (w.heap.size + 1) (w.heap.size + 2) w.heap.size) 0 cur' mq mr' bq br' ∧ Clk w2 (w.heap.size + 1) (w.heap.size + 2) w.heap.size (c + dc) x ∧ Rem mq mr' ∧ Rem bq br' ∧ Below w.heap.size w w2) := ⟨hL2, hC2, hm', hb', hB2⟩
      clear hcell hV hL2 hC2 hm' hb' hB2 hF2 hB1 htry hS1
      go_upto_region 23 with fail
      go_cut [80] from 73 to 79 (fun v80 wc => w2 = wc ∧ v80 = .bool (decide (0 ≤ y ∧ 0 ≤ z)))
      case first =>
        clear HN HV HRm HRb HST
        by_cases hy : 0 ≤ y
        · have hv : decide (0 ≤ y ∧ 0 ≤ z) = decide (0 ≤ z) := by simp [hy]
          go_wp2
          go_meet
          case rel => exact ⟨rfl, by rw [hv]⟩
        · have hv : decide (0 ≤ y ∧ 0 ≤ z) = false := by simp [hy]
          go_wp2
          go_meet
          case rel => exact ⟨rfl, by rw [hv]⟩
      case rest =>
        obtain ⟨rfl, rfl⟩ := hcut
        go_upto_if 80 with fail
        go_cut [17, 18, 19, 24, 25, 26] from 80 to 133 (fun v17 v18 v19 v24 v25 v26 wc => w2 = wc ∧ v17 = .int .i64 mr' ∧ v18 = .int .i64 br' ∧ v19 = .int .i64 cur' ∧ v24 = .bool got ∧ v25 = .int .i64 dc)
        case first =>
          clear HN
          cases HV.out with
          | neg h =>
            clear HV HRm HRb HST
            have hg : decide (0 ≤ y ∧ 0 ≤ z) = false := decide_eq_false (by omega)
            go_wp2
            go_meet
            case rel => exact ⟨rfl, rfl, rfl, rfl, rfl, rfl⟩
          | un hM hB h1 h2 =>
            clear HV HRm HRb HST
            subst h1 h2
            have hg : decide (0 ≤ y ∧ 0 ≤ z) = true := decide_eq_true ⟨hM, hB⟩
            go_wp2
            go_meet
            case rel => exact ⟨rfl, rfl, rfl, rfl, rfl, rfl⟩
          | live hM hB hn =>
            clear HV HST
            have hg : decide (0 ≤ y ∧ 0 ≤ z) = true := decide_eq_true ⟨hM, hB⟩
            have R1 : Hid (Rem mq (rolF mq mr p cur)) := rolF_rem HRm.out
            have R2 : Hid (Rem bq (rolF bq br p cur)) := rolF_rem HRb.out
            have E : ((mq == -1) = true ∧ (bq == -1) = false) ∨ (mq == -1) = false := by
              by_cases e1 : mq = -1
              · exact .inl ⟨by simp [e1], beq_eq_false_iff_ne.2 (by omega)⟩
              · exact .inr (beq_eq_false_iff_ne.2 e1)
            rcases E with ⟨e2, e3⟩ | e2
            · go_upto_if 94 with fail
              go_cut [17, 18, 19, 80] from 94 to 107 (fun v17 v18 v19 v80 wc => w2 = wc ∧ v17 = .int .i64 (rolF mq mr p cur) ∧ v18 = .int .i64 (rolF bq br p cur) ∧ v19 = .int .i64 (curF p cur))
              case first =>
                clear R1 R2
                by_cases hpc : p > cur
                · have r1 : Hid (rolF mq mr p cur = rollF mq mr (p - cur)) := if_pos hpc
                  have r2 : Hid (rolF bq br p cur = rollF bq br (p - cur)) := if_pos hpc
                  have r3 : Hid (curF p cur = p) := if_pos hpc
                  go_wp2_with fail
                  refine (zzroll_any mr mq (p - cur) _ HRm.out (by omega) (by omega)).mono ?_
                  rintro e w' ⟨rfl, rfl⟩
                  go_wp2_with fail
                  refine (zzroll_any br bq (p - cur) _ HRb.out (by omega) (by omega)).mono ?_
                  rintro e w' ⟨rfl, rfl⟩
                  go_wp2
                  go_meet
                  case rel => exact ⟨rfl, by rw [r1.out], by rw [r2.out], by rw [r3.out]⟩
                · have r1 : Hid (rolF mq mr p cur = mr) := if_neg hpc
                  have r2 : Hid (rolF bq br p cur = br) := if_neg hpc
                  have r3 : Hid (curF p cur = cur) := if_neg hpc
                  go_wp2
                  go_meet
                  case rel => exact ⟨rfl, by rw [r1.out], by rw [r2.out], by rw [r3.out]⟩
              case rest =>
                obtain ⟨rfl, rfl, rfl, rfl⟩ := hcut
                have HE1 : Hid (mq = -1) := show mq = -1 by simpa using e2
                obtain ⟨k1, k2⟩ := R1.out.bounds
                obtain ⟨k3, k4⟩ := R2.out.bounds
                clear R1 R2 HRm HRb
                have HE2 : Hid (bq ≠ -1) := show bq ≠ -1 by simpa using e3
                by_cases g2 : 0 < rolF bq br p cur
                · have g2' : decide (0 < rolF bq br p cur) = true := decide_eq_true g2
                  have HO : Hid (okF mq (rolF mq mr p cur) bq (rolF bq br p cur) = true) := ok_true (.inl HE1.out) (.inr g2)
                  go_wp2
                  go_meet
                  case rel => exact ⟨rfl, by rw [HO.out, spF_un _ _ HE1.out], by rw [HO.out, spF_lim _ _ HE2.out], rfl, by rw [HO.out], rfl⟩
                · have g2' : decide (0 < rolF bq br p cur) = false := decide_eq_false g2
                  have HO : Hid (okF mq (rolF mq mr p cur) bq (rolF bq br p cur) = false) := ok_false2 HE2.out g2
                  go_wp2
                  go_meet
                  case rel => exact ⟨rfl, by rw [HO.out, spF_false], by rw [HO.out, spF_false], rfl, by rw [HO.out], rfl⟩
            · go_upto_if 94 with fail
              go_cut [17, 18, 19, 80] from 94 to 107 (fun v17 v18 v19 v80 wc => w2 = wc ∧ v17 = .int .i64 (rolF mq mr p cur) ∧ v18 = .int .i64 (rolF bq br p cur) ∧ v19 = .int .i64 (curF p cur))
              case first =>
                clear R1 R2
                by_cases hpc : p > cur
                · have r1 : Hid (rolF mq mr p cur = rollF mq mr (p - cur)) := if_pos hpc
                  have r2 : Hid (rolF bq br p cur = rollF bq br (p - cur)) := if_pos hpc
                  have r3 : Hid (curF p cur = p) := if_pos hpc
                  go_wp2_with fail
                  refine (zzroll_any mr mq (p - cur) _ HRm.out (by omega) (by omega)).mono ?_
                  rintro e w' ⟨rfl, rfl⟩
                  go_wp2_with fail
                  refine (zzroll_any br bq (p - cur) _ HRb.out (by omega) (by omega)).mono ?_
                  rintro e w' ⟨rfl, rfl⟩
                  go_wp2
                  go_meet
                  case rel => exact ⟨rfl, by rw [r1.out], by rw [r2.out], by rw [r3.out]⟩
                · have r1 : Hid (rolF mq mr p cur = mr) := if_neg hpc
                  have r2 : Hid (rolF bq br p cur = br) := if_neg hpc
                  have r3 : Hid (curF p cur = cur) := if_neg hpc
                  go_wp2
                  go_meet
                  case rel => exact ⟨rfl, by rw [r1.out], by rw [r2.out], by rw [r3.out]⟩
              case rest =>
                obtain ⟨rfl, rfl, rfl, rfl⟩ := hcut
                have HE1 : Hid (mq ≠ -1) := show mq ≠ -1 by simpa using e2
                obtain ⟨k1, k2⟩ := R1.out.bounds
                obtain ⟨k3, k4⟩ := R2.out.bounds
                clear R1 R2 HRm HRb
                by_cases g1 : 0 < rolF mq mr p cur
                · have g1' : decide (0 < rolF mq mr p cur) = true := decide_eq_true g1
                  by_cases f2 : bq = -1
                  · have HF2 : Hid (bq = -1) := f2
                    have f2' : (bq == -1) = true := by simp [f2]
                    clear f2
                    have HO : Hid (okF mq (rolF mq mr p cur) bq (rolF bq br p cur) = true) := ok_true (.inr g1) (.inl HF2.out)
                    go_wp2
                    go_meet
                    case rel => exact ⟨rfl, by rw [HO.out, spF_lim _ _ HE1.out], by rw [HO.out, spF_un _ _ HF2.out], rfl, by rw [HO.out], rfl⟩
                  · have HF2 : Hid (bq ≠ -1) := f2
                    have f2' : (bq == -1) = false := beq_eq_false_iff_ne.2 f2
                    clear f2
                    by_cases g2 : 0 < rolF bq br p cur
                    · have g2' : decide (0 < rolF bq br p cur) = true := decide_eq_true g2
                      have HO : Hid (okF mq (rolF mq mr p cur) bq (rolF bq br p cur) = true) := ok_true (.inr g1) (.inr g2)
                      go_wp2
                      go_meet
                      case rel => exact ⟨rfl, by rw [HO.out, spF_lim _ _ HE1.out], by rw [HO.out, spF_lim _ _ HF2.out], rfl, by rw [HO.out], rfl⟩
                    · have g2' : decide (0 < rolF bq br p cur) = false := decide_eq_false g2
                      have HO : Hid (okF mq (rolF mq mr p cur) bq (rolF bq br p cur) = false) := ok_false2 HF2.out g2
                      go_wp2
                      go_meet
                      case rel => exact ⟨rfl, by rw [HO.out, spF_false], by rw [HO.out, spF_false], rfl, by rw [HO.out], rfl⟩
                · have g1' : decide (0 < rolF mq mr p cur) = false := decide_eq_false g1
                  have HO : Hid (okF mq (rolF mq mr p cur) bq (rolF bq br p cur) = false) := ok_false1 HE1.out g1
                  go_wp2
                  go_meet
                  case rel => exact ⟨rfl, by rw [HO.out, spF_false], by rw [HO.out, spF_false], rfl, by rw [HO.out], rfl⟩
        case rest =>
          obtain ⟨rfl, rfl, rfl, rfl, rfl, rfl⟩ := hcut
          obtain ⟨hL2, hC2, hm', hb', hB2⟩ := HN.out
          clear HV HRm HRb
          have a0 := hL2.c0
          have a2 := hL2.c2
          have a3 := hL2.c3
          have a4 := hL2.c4
          have a7 := hL2.c7
          have a8 := hL2.c8
          have a9 := hL2.c9
          have a10 := hL2.c10
          have a11 := hL2.c11
          have b0 := hC2.b0
          have b1 := hC2.b1
          have b2 := hC2.b2
          have k0 := hC2.cc
          have hcd : c + dc - c = dc := by omega
          clear hL2 hC2 hm' hb' hB2
          go_upto_region 42 with fail
          have aS : w2.drew.cell? ⟨w.heap.size + 3, 0, none⟩ = some (.int .i64 per) ∧ w2.drew.cell? ⟨w.heap.size + 3, 2, none⟩ = some (.int .u64 0) ∧ w2.drew.cell? ⟨w.heap.size + 3, 3, none⟩ = some (.int .i64 0) ∧ w2.drew.cell? ⟨w.heap.size + 3, 4, none⟩ = some (.pointer none) ∧ w2.drew.cell? ⟨w.heap.size + 3, 8, none⟩ = some (.int .i64 mq) ∧ w2.drew.cell? ⟨w.heap.size + 3, 10, none⟩ = some (.int .i64 bq) ∧ w2.drew.cell? ⟨w.heap.size + 2, 0, none⟩ = some (.int .u64 0) ∧ w2.drew.cell? ⟨w.heap.size + 2, 1, none⟩ = some (.int .i64 0) ∧ w2.drew.cell? ⟨w.heap.size + 2, 2, none⟩ = some (.pointer none) := ⟨a0, a2, a3, a4, a8, a10, b0, b1, b2⟩
          clear a0 a2 a3 a4 a7 a8 a9 a10 a11 b0 b1 b2 k0 hcd s0 s1 s2
          go_region_held3 (fun w' => w'.cell? ⟨w.heap.size + 3, 0, none⟩ = some (.int .i64 per) ∧ w'.cell? ⟨w.heap.size + 3, 2, none⟩ = some (.int .u64 0) ∧ w'.cell? ⟨w.heap.size + 3, 3, none⟩ = some (.int .i64 0) ∧ w'.cell? ⟨w.heap.size + 3, 4, none⟩ = some (.pointer none) ∧ w'.cell? ⟨w.heap.size + 3, 8, none⟩ = some (.int .i64 mq) ∧ w'.cell? ⟨w.heap.size + 3, 10, none⟩ = some (.int .i64 bq) ∧ w'.cell? ⟨w.heap.size + 2, 0, none⟩ = some (.int .u64 0) ∧ w'.cell? ⟨w.heap.size + 2, 1, none⟩ = some (.int .i64 0) ∧ w'.cell? ⟨w.heap.size + 2, 2, none⟩ = some (.pointer none)) (assumption)
            (first
              | (go_at_call 9; refine (equal_same 0 0 _ (by omega) (by omega)).mono ?_; rintro e w3 ⟨rfl, hB3⟩; have hS3 : w3.cell? ⟨w.heap.size + 3, 0, none⟩ = some (.int .i64 per) ∧ w3.cell? ⟨w.heap.size + 3, 2, none⟩ = some (.int .u64 0) ∧ w3.cell? ⟨w.heap.size + 3, 3, none⟩ = some (.int .i64 0) ∧ w3.cell? ⟨w.heap.size + 3, 4, none⟩ = some (.pointer none) ∧ w3.cell? ⟨w.heap.size + 3, 8, none⟩ = some (.int .i64 mq) ∧ w3.cell? ⟨w.heap.size + 3, 10, none⟩ = some (.int .i64 bq) ∧ w3.cell? ⟨w.heap.size + 2, 0, none⟩ = some (.int .u64 0) ∧ w3.cell? ⟨w.heap.size + 2, 1, none⟩ = some (.int .i64 0) ∧ w3.cell? ⟨w.heap.size + 2, 2, none⟩ = some (.pointer none) := ⟨Below.keepCell hB3 aS.1, Below.keepCell hB3 aS.2.1, Below.keepCell hB3 aS.2.2.1, Below.keepCell hB3 aS.2.2.2.1, Below.keepCell hB3 aS.2.2.2.2.1, Below.keepCell hB3 aS.2.2.2.2.2.1, Below.keepCell hB3 aS.2.2.2.2.2.2.1, Below.keepCell hB3 aS.2.2.2.2.2.2.2.1, Below.keepCell hB3 aS.2.2.2.2.2.2.2.2⟩))
          have HNext : Hid (Run w per mq bq (k + 1) mr' br' cur' (c + dc) x w3) := by
            obtain ⟨hL2, hC2, hm', hb', hB2⟩ := HN.out
            have f : Fr (fun _ => False) w2 w3 := (Fr.refl _ w2).drew.trans (Fr.ofBelow hB3)
            exact ⟨hL2.fr f (fun h => h), hC2.fr f (fun h => h) (fun h => h) (fun h => h), hB2.trans (f.below hB2.size (fun _ _ h => h)), hm', hb', hu0', hu1', by omega, by omega⟩
          clear HN hB3 hS3 aS
          go_wp2
          go_roundw
          case rel => exact ⟨k + 1, mr', br', cur', c + dc, x, by omega, by go_num, rfl, rfl, rfl, HNext.out⟩
          case measure => simp [intOf]; omega
    · have hkl : len = k := by omega
      subst hkl
      have hb := hR.below
      clear hR HR
      go_wp2
      go_ret
      exact ⟨rfl, hb⟩
end Go.Proofs.Ybulkchjm
