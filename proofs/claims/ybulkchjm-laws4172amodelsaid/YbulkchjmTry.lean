/-
  TryAcquire.
-/
import Derived.Test.YbulkchjmAdvance
namespace Go.Proofs.Ybulkchjm
open Go.RowKit Go.MuLone

def okF (mq mr bq br : Int) : Bool := allowsF mq mr && allowsF bq br
def spF (ok : Bool) (q r n : Int) : Int := if ok then spendF q r n else r

variable {w w' : World} {bl bc bb bn : Nat} {per : Int} {clk : Value} {st cur mq mr bq br c T : Int}

theorem spend_bounds {q r n : Int} (h : Rem q r) (ha : allowsF q r = true) (n0 : 0 ≤ n) (n1 : n ≤ 9223372036854775807) : -9223372036854775808 ≤ r - n ∧ r - n ≤ 9223372036854775807 := by
  rcases h with ⟨rfl, rfl⟩ | ⟨hq, hq2, hr, hrq⟩
  · omega
  · have : (q == -1) = false := beq_eq_false_iff_ne.2 (by omega)
    simp [allowsF, this] at ha
    omega
theorem spF_rem {q r n : Int} {ok : Bool} (h : Rem q r) (ha : ok = true → allowsF q r = true) (n0 : 0 ≤ n) (n1 : n ≤ 9223372036854775807) : Rem q (spF ok q r n) := by
  unfold spF
  cases ok
  · exact h
  · have hb := spend_bounds h (ha rfl) n0 n1
    simp only [if_true]
    rcases h with ⟨rfl, rfl⟩ | ⟨hq, hq2, hr, hrq⟩
    · exact .inl ⟨rfl, rfl⟩
    · have hne : (q == -1) = false := beq_eq_false_iff_ne.2 (by omega)
      have ha := ha rfl
      simp [allowsF, hne] at ha
      rw [show spendF q r n = r - n from if_neg (by omega)]
      exact .inr ⟨hq, hq2, by omega, by omega⟩

theorem try_neg (M B : Int) (v : Value) (w : World) (h : M < 0 ∨ B < 0) : Calls Yba.prog 7 #[v, .int .i64 M, .int .i64 B] w fun e w' => e = .returned (.bool false) ∧ w = w' := by
  by_cases hM : M < 0
  · go_enter_defers Yba.func7, Yba.ntmps7
    go_wp2
    exact ⟨_, results_tmp rfl _ _ _, rfl, rfl⟩
  · have hB : B < 0 := by omega
    go_enter_defers Yba.func7, Yba.ntmps7
    go_wp2
    exact ⟨_, results_tmp rfl _ _ _, rfl, rfl⟩

theorem try_un (M B : Int) (hL : Lim w bl per clk st cur (-1) mr (-1) br) (hM : 0 ≤ M) (hB : 0 ≤ B) : Calls Yba.prog 7 #[.pointer (some ⟨bl, 0, none⟩), .int .i64 M, .int .i64 B] w fun e w' => e = .returned (.bool true) ∧ w = w' := by
  have c8 := hL.c8
  have c10 := hL.c10
  go_enter_defers Yba.func7, Yba.ntmps7
  go_wp2
  exact ⟨_, results_tmp rfl _ _ _, rfl, rfl⟩

/-- Behind the lock: the deferred Unlock. -/
theorem after_unlock {mr1 br1 cur1 : Int} {w3 : World} (hL3 : Lim w3 bl per (clkV bc bb bn) 1 cur1 mq mr1 bq br1) (hC3 : Clk w3 bc bb bn c T) (hF3 : Fr (fun k => k = bl ∨ k = bc) w w3) (nl : bl ≠ bc) (nbl : bb ≠ bl) (nnl : bn ≠ bl) :
    Lim (w3.setCell ⟨bl, 5, none⟩ (.int .i32 0)) bl per (clkV bc bb bn) 0 cur1 mq mr1 bq br1 ∧ Clk (w3.setCell ⟨bl, 5, none⟩ (.int .i32 0)) bc bb bn c T ∧ Fr (fun k => k = bl ∨ k = bc) w (w3.setCell ⟨bl, 5, none⟩ (.int .i32 0)) :=
  ⟨hL3.set5 0, hC3.fr (S := (· = bl)) ((Fr.refl (· = bl) w3).setCell (p := ⟨bl, 5, none⟩) (.inl rfl) _) (Ne.symm nl) nbl nnl, hF3.setCell (.inl (.inl rfl)) _⟩

theorem try_live (M B p : Int) (hL : Lim w bl per (clkV bc bb bn) 0 cur mq mr bq br) (hC : Clk w bc bb bn c T) (nl : bl ≠ bc) (nb : bc ≠ bb) (nn : bc ≠ bn) (nbl : bb ≠ bl) (nnl : bn ≠ bl)
    (hp : Int.tdiv T per = p) (p0 : 1 ≤ per) (p1 : per ≤ 8) (t0 : -32768 ≤ T) (t1 : T ≤ 32767) (c0 : 0 ≤ c) (c1 : c < 100000) (u0 : 0 ≤ cur) (u1 : cur ≤ 32767) (hm : Rem mq mr) (hb : Rem bq br)
    (hM : 0 ≤ M) (hM1 : M ≤ 9223372036854775807) (hB : 0 ≤ B) (hB1 : B ≤ 9223372036854775807) (hn : ¬ (mq = -1 ∧ bq = -1)) :
    Calls Yba.prog 7 #[.pointer (some ⟨bl, 0, none⟩), .int .i64 M, .int .i64 B] w fun e w' => e = .returned (.bool (okF mq (rolF mq mr p cur) bq (rolF bq br p cur))) ∧
      Lim w' bl per (clkV bc bb bn) 0 (curF p cur) mq (spF (okF mq (rolF mq mr p cur) bq (rolF bq br p cur)) mq (rolF mq mr p cur) M) bq (spF (okF mq (rolF mq mr p cur) bq (rolF bq br p cur)) bq (rolF bq br p cur) B) ∧
      Clk w' bc bb bn (c + 1) T ∧ Fr (fun k => k = bl ∨ k = bc) w w' := by
  have hm1 : Rem mq (rolF mq mr p cur) := rolF_rem hm
  have hb1 : Rem bq (rolF bq br p cur) := rolF_rem hb
  have hadv := fun (W : World) (hL : Lim W bl per (clkV bc bb bn) 1 cur mq mr bq br) (hC : Clk W bc bb bn c T) => advance_def p hL hC nl nb nn nbl nnl hp p0 p1 t0 t1 c0 c1 u0 u1 hm hb
  generalize rolF mq mr p cur = mr1 at *
  generalize rolF bq br p cur = br1 at *
  generalize curF p cur = cur1 at *
  have c8 := hL.c8
  have c10 := hL.c10
  have hL1 := hL.set5 1
  have hC1 : Clk (w.setCell ⟨bl, 5, none⟩ (.int .i32 1)) bc bb bn c T := hC.fr (S := (· = bl)) ((Fr.refl (· = bl) w).setCell (p := ⟨bl, 5, none⟩) (.inl rfl) _) (Ne.symm nl) nbl nnl
  have hF1 : Fr (fun k => k = bl ∨ k = bc) w (w.setCell ⟨bl, 5, none⟩ (.int .i32 1)) := (Fr.refl _ w).setCell (.inl (.inl rfl)) _
  have hlock := lock_free Yba.muLib ⟨bl, 5, none⟩ w hL.c5 (hL.z 5)
  generalize (w.setCell ⟨bl, 5, none⟩ (.int .i32 1)) = W1 at hL1 hC1 hF1 hlock
  have hadv1 := hadv W1 hL1 hC1
  clear hadv hL1 hC1 hL hC
  have E : ((mq == -1) = true ∧ (bq == -1) = false) ∨ (mq == -1) = false := by
    by_cases e1 : mq = -1
    · exact .inl ⟨by simp [e1], beq_eq_false_iff_ne.2 (by omega)⟩
    · exact .inr (beq_eq_false_iff_ne.2 e1)
  go_enter_defers Yba.func7, Yba.ntmps7
  rcases E with ⟨e2, e3⟩ | e2
  all_goals
    go_wp2_with fail
    refine hlock.mono ?_
    rintro e w' ⟨rfl, rfl⟩
    go_wp2_with fail
    refine hadv1.mono ?_
    rintro e w2 ⟨rfl, hL2, hC2, hF2⟩
    replace hF2 := hF1.trans hF2
    go_wp2_with fail
    refine (allows_any bl 8 mq mr1 _ hL2.c8 hL2.c9).mono ?_
    rintro e w' ⟨rfl, rfl⟩
    cases ha : allowsF mq mr1 with
    | false =>
      have hok : okF mq mr1 bq br1 = false := by simp [okF, ha]
      go_wp2_with fail
      refine leaves_cons (f := 15) (args := #[.pointer (some ⟨bl, 5, none⟩)]) (by simp) (by simp [go_sem]) ?_
      refine (unlock_deferred Yba.muLib ⟨bl, 5, none⟩ .returning _ hL2.c5 (hL2.z 5)).mono ?_
      rintro e u' w'' ⟨rfl, rfl, rfl⟩
      have hfin := after_unlock hL2 hC2 hF2 nl nbl nnl
      exact ⟨_, results_tmp rfl _ _ _, by rw [hok]; exact ⟨rfl, hfin⟩⟩
    | true =>
      go_wp2_with fail
      refine (allows_any bl 10 bq br1 _ hL2.c10 hL2.c11).mono ?_
      rintro e w' ⟨rfl, rfl⟩
      cases ha2 : allowsF bq br1 with
      | false =>
        have hok : okF mq mr1 bq br1 = false := by simp [okF, ha2]
        go_wp2_with fail
        refine leaves_cons (f := 15) (args := #[.pointer (some ⟨bl, 5, none⟩)]) (by simp) (by simp [go_sem]) ?_
        refine (unlock_deferred Yba.muLib ⟨bl, 5, none⟩ .returning _ hL2.c5 (hL2.z 5)).mono ?_
        rintro e u' w'' ⟨rfl, rfl, rfl⟩
        have hfin := after_unlock hL2 hC2 hF2 nl nbl nnl
        exact ⟨_, results_tmp rfl _ _ _, by rw [hok]; exact ⟨rfl, hfin⟩⟩
      | true =>
        have hok : okF mq mr1 bq br1 = true := by simp [okF, ha, ha2]
        have s1 := spend_bounds hm1 ha hM hM1
        have s2 := spend_bounds hb1 ha2 hB hB1
        go_wp2_with fail
        refine (spend_any bl 8 mq mr1 M _ hL2.c8 hL2.c9 (hL2.z 9) s1.1 s1.2).mono ?_
        rintro e w3 ⟨rfl, hs3⟩
        have hL3 := hL2.set9 hs3
        have hF3 := hF2.trans (hs3.fr (.inl rfl))
        have hC3 : Clk w3 bc bb bn (c + 1) T := hC2.fr (S := (· = bl)) (hs3.fr rfl) (Ne.symm nl) nbl nnl
        clear hs3
        go_wp2_with fail
        refine (spend_any bl 10 bq br1 B _ hL3.c10 hL3.c11 (hL3.z 11) s2.1 s2.2).mono ?_
        rintro e w4 ⟨rfl, hs4⟩
        have hL4 := hL3.set11 hs4
        have hF4 := hF3.trans (hs4.fr (.inl rfl))
        have hC4 : Clk w4 bc bb bn (c + 1) T := hC3.fr (S := (· = bl)) (hs4.fr rfl) (Ne.symm nl) nbl nnl
        clear hs4
        go_wp2_with fail
        refine leaves_cons (f := 15) (args := #[.pointer (some ⟨bl, 5, none⟩)]) (by simp) (by simp [go_sem]) ?_
        refine (unlock_deferred Yba.muLib ⟨bl, 5, none⟩ .returning _ hL4.c5 (hL4.z 5)).mono ?_
        rintro e u' w'' ⟨rfl, rfl, rfl⟩
        have hfin := after_unlock hL4 hC4 hF4 nl nbl nnl
        exact ⟨_, results_tmp rfl _ _ _, by rw [hok]; exact ⟨rfl, hfin⟩⟩
end Go.Proofs.Ybulkchjm
