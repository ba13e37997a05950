/-
  The law: LawS4180ATwoReads.
-/
import Derived.Test.YbulkchnuFmtUns
import Derived.Test.YbulkchnuFmtFold
namespace Go.Proofs.YbulkchnuFmt
open Go.RowKit Go.Extern.Stop Go.Stop Go.Extern

variable {F : Interp} {g : GV}

/-- More than 1024 bytes: true at once. -/
theorem walk_long (a : Option Addr) (len cap : Nat) (x y : Int) (w : World) (hlen : 1024 < len) :
    Calls Ybaf.prog 3 #[.slice a len cap, .int .u8 x, .int .u8 y] w fun e w' => e = .returned (.bool true) ∧ Below w.heap.size w w' := by
  go_enter Ybaf.func3, Ybaf.ntmps3
  go_wp2
  go_ret
  exact ⟨rfl, Below.refl _ _⟩

theorem st_start (a : Option Addr) (len cap : Nat) (z : List Int) (w : World) (G : Glob g w.heap.size w) (hF : F.answers w.tape) (S : Src w a len z w.heap.size) :
    St F g w.heap.size w.heap.size (w.heap.size + 1) a len cap z 0 false ((w.alloc (.cells #[.slice a len cap, .int .i64 0, .int .i64 0] 25)).alloc (.cells #[.iface 23 (.pointer (some ⟨w.heap.size, 0, none⟩)), .string metaS, .int .i64 0, .string ⟨#[]⟩, .nilIface] 33)) ∧
    Below w.heap.size w ((w.alloc (.cells #[.slice a len cap, .int .i64 0, .int .i64 0] 25)).alloc (.cells #[.iface 23 (.pointer (some ⟨w.heap.size, 0, none⟩)), .string metaS, .int .i64 0, .string ⟨#[]⟩, .nilIface] 33)) := by
  have b : Below w.heap.size w ((w.alloc (.cells #[.slice a len cap, .int .i64 0, .int .i64 0] 25)).alloc (.cells #[.iface 23 (.pointer (some ⟨w.heap.size, 0, none⟩)), .string metaS, .int .i64 0, .string ⟨#[]⟩, .nilIface] 33)) := ((Below.refl _ w).alloc (Nat.le_refl _) _).alloc (by simp) _
  refine ⟨⟨G.below b, by rw [b.tape]; exact hF, S.below b, ⟨?_, ?_, ⟨0, ?_⟩, fun i => ?_⟩, ?_, ?_, ?_, ?_, Nat.le_refl _, by omega, by omega, Nat.zero_le _⟩, b⟩
  · rw [World.cell?_alloc_past _ _ _ (by simp)]; simp
  · rw [World.cell?_alloc_past _ _ _ (by simp)]; simp
  · rw [World.cell?_alloc_past _ _ _ (by simp)]; simp
  · simp [go_sem]
  · simp [go_sem]
  · simp [go_sem]
  · simp [go_sem]
  · show World.cell? _ _ = _
    simp [go_sem]

theorem walk_main (a : Option Addr) (len cap : Nat) (z : List Int) (x y : Nat) (w : World) (G : Glob g w.heap.size w) (hF : F.answers w.tape) (S : Src w a len z w.heap.size) (hl : len ≤ 1024) (hz : z.length = len) (hb : ∀ j, 0 ≤ z.getD j 0 ∧ z.getD j 0 ≤ 255) (hcap : len ≤ cap) (hx : x ≤ 255) (hy : y ≤ 255) :
    Calls Ybaf.prog 3 #[.slice a len cap, .int .u8 x, .int .u8 y] w fun e w' => e = .returned (.bool true) ∧ Below w.heap.size w w' := by
  go_enter Ybaf.func3, Ybaf.ntmps3
  go_wp2_with fail
  obtain ⟨hst0, hb0⟩ := st_start a len cap z w G hF S
  have e1 : ((x : Int) % 12) = ((x % 12 : Nat) : Int) := by omega
  have e2 : ((y : Int) % 12) = ((y % 12 : Nat) : Int) := by omega
  rw [e1, e2]
  have hsa : x % 12 ≤ 11 := by omega
  have hsb : y % 12 ≤ 11 := by omega
  clear e1 e2
  generalize x % 12 = sa at hsa
  generalize y % 12 = sb at hsb
  generalize ((w.alloc (.cells #[.slice a len cap, .int .i64 0, .int .i64 0] 25)).alloc (.cells #[.iface 23 (.pointer (some ⟨w.heap.size, 0, none⟩)), .string metaS, .int .i64 0, .string ⟨#[]⟩, .nilIface] 33)) = w0 at hst0 hb0
  refine (unsigned_any sa w0 hst0 hl hz hb hcap hsa).mono ?_
  rintro e w1 ⟨rfl, hst1, hb1⟩
  have hbw1 := below_trans hb0 hb1
  clear hst0 hb0 hb1
  rw [Nat.zero_add] at hst1
  by_cases hA : len < sa
  · rw [decide_eq_true hA, Nat.min_eq_right (Nat.le_of_lt hA)] at hst1
    go_wp2_with fail
    refine (unsigned_err sb w1 hst1 hsb).mono ?_
    rintro e w2 ⟨rfl, hst2, hb2⟩
    have hbw2 := below_trans hbw1 hb2
    clear hst1 hbw1 hb2
    go_wp2_with fail
    refine (fold_any a len cap 0 sa z w2 hl (by omega) hsa hz hb (hst2.src.imp id (fun ⟨b, off, e, _, h⟩ => ⟨b, off, e, h⟩))).mono ?_
    rintro e w3 ⟨rfl, rfl⟩
    obtain ⟨nb, h4, hm⟩ := hst2.d4
    have r1 := hst2.rd.c1
    have d1 := hst2.d1
    have gm := hst2.glob.m
    have hiA : (len : Int) < (sa : Int) := by omega
    have hiB : (len : Int) < (sa : Int) + (sb : Int) := by omega
    clear hst2 G S hb
    go_wp2_with fail
    go_quiet (exact Calls.quiet_of_same (is_wrap_same nb 0 g.aM _ (by simpa using hm)))
    go_wp2_with fail
    go_ret
    exact ⟨rfl, below_drewN hbw2 _⟩
  · rw [decide_eq_false hA, Nat.min_eq_left (Nat.le_of_not_lt hA)] at hst1
    go_wp2_with fail
    refine (unsigned_any sb w1 hst1 hl hz hb hcap hsb).mono ?_
    rintro e w2 ⟨rfl, hst2, hb2⟩
    have hbw2 := below_trans hbw1 hb2
    clear hst1 hbw1 hb2
    go_wp2_with fail
    refine (fold_any a len cap 0 sa z w2 hl (by omega) hsa hz hb (hst2.src.imp id (fun ⟨b, off, e, _, h⟩ => ⟨b, off, e, h⟩))).mono ?_
    rintro e w3 ⟨rfl, rfl⟩
    have hiA : (sa : Int) ≤ (len : Int) := by omega
    go_wp2_with fail
    refine (fold_any a len cap sa sb z w3 hl hsa hsb hz hb (hst2.src.imp id (fun ⟨b, off, e, _, h⟩ => ⟨b, off, e, h⟩))).mono ?_
    rintro e w4 ⟨rfl, rfl⟩
    have d1 := hst2.d1
    have gm := hst2.glob.m
    by_cases hC : len < sa + sb
    · rw [decide_eq_true hC, Nat.min_eq_right (Nat.le_of_lt hC)] at hst2
      obtain ⟨nb, h4, hm⟩ := hst2.d4
      have r1 := hst2.rd.c1
      have hiB : (len : Int) < (sa : Int) + (sb : Int) := by omega
      clear hst2 G S hb
      go_wp2_with fail
      go_quiet (exact Calls.quiet_of_same (is_wrap_same nb 0 g.aM _ (by simpa using hm)))
      go_wp2_with fail
      go_ret
      exact ⟨rfl, below_drewN hbw2 _⟩
    · rw [decide_eq_false hC, Nat.min_eq_left (Nat.le_of_not_lt hC)] at hst2
      have h4 : w4.cell? ⟨w.heap.size + 1, 4, none⟩ = some .nilIface := hst2.d4
      have r1 := hst2.rd.c1
      have hiB : (sa : Int) + (sb : Int) ≤ (len : Int) := by omega
      clear hst2 G S hb
      go_wp2_with fail
      go_quiet (fail)
      go_wp2_with fail
      go_ret
      exact ⟨rfl, below_drewN hbw2 _⟩
end Go.Proofs.YbulkchnuFmt
