/-
  io.ReadAtLeast and io.ReadFull over the law's reader.
-/
import Derived.Test.YbulkchnuFmtRead
namespace Go.Proofs.YbulkchnuFmt
open Go.RowKit Go.Extern.Stop Go.Stop Go.Extern

theorem Ybaf.methodRead (v : Value) (w : World) : (Go.method 216 23 v "Read").run Ybaf.prog w = .ok (35, v) w := by kernel_rfl

theorem Ybaf.aheadRead (a : Addr) (w : World) : (nilAhead 216 23 (.pointer (some a)) "Read").run Ybaf.prog w = .ok (some false) w := by kernel_rfl

/-- A buffer of no bytes: nothing is read. -/
theorem least_none (rv : Value) (bb : Option Addr) (cap : Nat) (w : World) :
    Calls Ybaf.prog 15 #[rv, .slice bb 0 cap, .int .i64 0] w fun e w' => e = .returned (.tuple #[.int .i64 0, .nilIface]) ∧ w = w' := by
  go_enter Ybaf.func15, Ybaf.ntmps15
  go_wp2
  refine wp_loop_rounds 1 ?_
  rw [rounds_succ]
  go_wp2
  go_ret2
  exact ⟨rfl, rfl⟩

theorem least_end {g : GV} {B : Nat} (br k : Nat) (a : Option Addr) (len cap : Nat) (bb s : Nat) (w : World) (G : Glob g B w) (R : Rd w br (.slice a len cap) k) (hB : B ≤ br) (hk : len ≤ k) (hs0 : 0 < s) (hs : s ≤ 11) :
    Calls Ybaf.prog 15 #[.iface 23 (.pointer (some ⟨br, 0, none⟩)), .slice (some ⟨bb, 0, none⟩) s s, .int .i64 s] w fun e w' => e = .returned (.tuple #[.int .i64 0, .iface 48 (.pointer (some g.aE))]) ∧ Rd w' br (.slice a len cap) k ∧ Fr (· = br) w w' := by
  have hmr := Ybaf.methodRead
  have hna := Ybaf.aheadRead
  have hmf : ∀ (fn : Fn) (first cap : Array Value) (w : World), (Instr.makeFunc fn first cap).run Ybaf.prog w = .ok (.func fn first cap) w := fun _ _ _ _ => rfl
  go_enter Ybaf.func15, Ybaf.ntmps15
  go_wp2
  refine wp_loop_rounds 2 ?_
  rw [rounds_succ]
  go_wp2_with fail
  have hG := G.below (Below.refl B w).drew
  have hR := R.fr (S := fun _ => False) (Fr.refl _ w).drew (fun h => h)
  go_region_held3 (fun _ => True) (exact trivial)
    (first
      | (go_at_call 35; refine (read_end br k a len cap _ _ hG hR hB hk).mono ?_; rintro e w1 ⟨rfl, hR1, hF1⟩))
  rename_i hHeld
  clear hHeld hG hR
  have hG1 : Glob g B w1 := G.below ((Fr.trans (Fr.refl (· = br) w).drew hF1).below' (fun i hi => by omega) (Nat.le_trans hB (Nat.le_of_lt R.lt)))
  have ge := hG1.e
  go_wp2_with fail
  rw [rounds_succ]
  go_wp2
  go_ret2
  exact ⟨rfl, hR1, Fr.trans (Fr.refl (· = br) w).drew hF1⟩

/-- The reader holds all that is asked for: one round. -/
theorem least_all (br k b off len cap bb s : Nat) (z : List Int) (cur : List Value) (w : World) (R : Rd w br (.slice (some ⟨b, off, none⟩) len cap) k) (hl : len ≤ 1024)
    (hz : z.length = len) (hcur : cur.length = s) (hs0 : 0 < s) (hs : s ≤ 11) (hfit : k + s ≤ len)
    (hrow : w.heap[bb]? = some (.cells cur.toArray 5 (0, 0))) (hsrc : ∀ j, j < len → w.cell? ⟨b, off + j, none⟩ = some (.int .u8 (z.getD j 0))) (n1 : bb ≠ br) (n2 : b ≠ bb) (n3 : b ≠ br) (hcap : len ≤ cap) :
    Calls Ybaf.prog 15 #[.iface 23 (.pointer (some ⟨br, 0, none⟩)), .slice (some ⟨bb, 0, none⟩) s s, .int .i64 s] w fun e w' => e = .returned (.tuple #[.int .i64 s, .nilIface]) ∧
      Rd w' br (.slice (some ⟨b, off, none⟩) len cap) (k + s) ∧ w'.heap[bb]? = some (.cells (splice cur 0 (bytesAt z k s)).toArray 5 (0, 0)) ∧ Fr (fun i => i = br ∨ i = bb) w w' := by
  have hmr := Ybaf.methodRead
  have hna := Ybaf.aheadRead
  have hmf : ∀ (fn : Fn) (first cap : Array Value) (w : World), (Instr.makeFunc fn first cap).run Ybaf.prog w = .ok (.func fn first cap) w := fun _ _ _ _ => rfl
  have hread := read_some br k b off len cap bb 0 s s s z cur w.drew (R.fr (S := fun _ => False) (Fr.refl _ w).drew (fun h => h)) (by omega) hl hz (by omega) hcur (by omega) hrow hsrc n1 n2 n3 hcap
  clear hsrc hrow R
  go_enter Ybaf.func15, Ybaf.ntmps15
  go_wp2
  refine wp_loop_rounds 2 ?_
  rw [rounds_succ]
  go_wp2_with fail
  go_region_held3 (fun _ => True) (exact trivial)
    (first
      | (go_at_call 35; refine hread.mono ?_; rintro e w1 ⟨rfl, hR1, hrow1, hF1⟩))
  rename_i hHeld
  clear hHeld hread
  go_wp2_with fail
  rw [rounds_succ]
  go_wp2
  go_ret2
  exact ⟨rfl, hR1, hrow1, Fr.trans (Fr.refl _ w).drew hF1⟩
end Go.Proofs.YbulkchnuFmt
