/-
  A MAP OF THE CALL's OWN WHOSE KEYS ARE OF A FAMILY OF THREE STRINGS, said key by key ('f k': what stands at the k-th key, if anything does): look-up, store, delete, len.
-/
import Derived.Test.YbulkchjmFmtRows
import Derived.Maps.OwnSet
import Derived.Below
namespace Go.Proofs.YbulkchjmFmt
open Go.RowKit Go.Maps Go.WideMaps
open Go.ChangeMaps (setBlock heap_setBlock_same heap_setBlock_other)

structure KeyFam (ky : Nat → ByteArray) : Prop where
  inj : ∀ i j, i < 3 → j < 3 → ky i = ky j → i = j
  small : ∀ i, (ky i).size ≤ maxLen

def one (o : Option Value) : Nat := if o.isSome then 1 else 0
def cnt (f : Nat → Option Value) : Nat := one (f 0) + one (f 1) + one (f 2)
def upd {α : Type} (f : Nat → α) (k : Nat) (o : α) : Nat → α := fun i => if i = k then o else f i

theorem upd_same {α : Type} (f : Nat → α) (k : Nat) (o : α) : upd f k o k = o := by simp [upd]
theorem upd_other {α : Type} (f : Nat → α) {k i : Nat} (h : i ≠ k) (o : α) : upd f k o i = f i := by simp [upd, h]

theorem cnt_upd (f : Nat → Option Value) (k : Nat) (o : Option Value) (hk : k < 3) : cnt (upd f k o) + one (f k) = cnt f + one o := by
  unfold cnt upd
  match k, hk with
  | 0, _ => simp; omega
  | 1, _ => simp; omega
  | 2, _ => simp; omega

/-- Block b is a map that holds at the key 'ky k' just what 'f k' says, and nothing at any other. -/
def MapIs (w : World) (b : Nat) (ky : Nat → ByteArray) (f : Nat → Option Value) : Prop :=
  ∃ es clock, w.heap[b]? = some (.map es clock) ∧ (∀ x ∈ es.toList, ∃ k, k < 3 ∧ x.key = .string (ky k) ∧ f k = some x.val) ∧ (∀ k, k < 3 → ∀ v, f k = some v → ∃ x ∈ es.toList, x.key = .string (ky k)) ∧
    es.toList.Pairwise (fun x y => x.key ≠ y.key) ∧ es.size = cnt f

theorem MapIs.made (w : World) (ky : Nat → ByteArray) : MapIs (w.alloc (.map #[] 0)) w.heap.size ky (fun _ => none) :=
  ⟨#[], 0, heap_alloc_new w _, by simp, by simp, by simp, by simp [cnt, one]⟩

section
variable {w : World} {b : Nat} {ky : Nat → ByteArray} {f : Nat → Option Value}

theorem MapIs.lt (h : MapIs w b ky f) : b < w.heap.size := by
  obtain ⟨es, clock, hb, _⟩ := h
  exact (Array.getElem?_eq_some_iff.1 hb).1

theorem MapIs.same {w' : World} (h : MapIs w b ky f) (hs : w'.heap[b]? = w.heap[b]?) : MapIs w' b ky f := by
  obtain ⟨es, clock, hb, r⟩ := h
  exact ⟨es, clock, hs.trans hb, r⟩

theorem MapIs.congr {g : Nat → Option Value} (h : MapIs w b ky f) (hfg : ∀ k, k < 3 → f k = g k) : MapIs w b ky g := by
  obtain ⟨es, clock, hb, h1, h2, h3, h4⟩ := h
  refine ⟨es, clock, hb, fun x hx => ?_, fun k hk v hv => h2 k hk v ((hfg k hk).trans hv), h3, ?_⟩
  · obtain ⟨k, hk, e1, e2⟩ := h1 x hx
    exact ⟨k, hk, e1, (hfg k hk) ▸ e2⟩
  · rw [h4]
    unfold cnt
    rw [hfg 0 (by omega), hfg 1 (by omega), hfg 2 (by omega)]

theorem law : Keyed Ybaf.prog 9 := string_keyed Ybaf.underlying9

theorem keyAt (F : KeyFam ky) (k : Nat) : keyOf Ybaf.prog 9 (.string (ky k)) = some (.string (ky k).data.toList) := keyOf_string_mk Ybaf.underlying9 (F.small k)

theorem keys_of (F : KeyFam ky) {es : Array MapEntry} (h1 : ∀ x ∈ es.toList, ∃ k, k < 3 ∧ x.key = .string (ky k) ∧ f k = some x.val) : ∀ e ∈ es.toList, ∃ l, keyOf Ybaf.prog 9 e.key = some l := by
  intro e he
  obtain ⟨k, _, hk, _⟩ := h1 e he
  exact ⟨_, by rw [hk]; exact keyAt F k⟩

/-- 'm[k]', with 'ok' or without. -/
theorem MapIs.look (h : MapIs w b ky f) (F : KeyFam ky) {t e : TypeId} (ht : Ybaf.prog.underlying t = some (.map 9 e)) {z : Value} (hz : (zeroValue e).run Ybaf.prog w = .ok z w) {k : Nat} (hk : k < 3) (c : Bool) :
    (Instr.lookup t (.map (some b)) (.string (ky k)) c).run Ybaf.prog w = .ok (if c then .tuple #[(f k).getD z, .bool (f k).isSome] else (f k).getD z) w := by
  obtain ⟨es, clock, hb, h1, h2, _, _⟩ := h
  rcases law.find w (keyAt F k) es.toList (keys_of F h1) with ⟨g1, g2⟩ | ⟨j, e0, g1, g2, g3⟩
  · have hn : f k = none := by
      cases hf : f k with
      | none => rfl
      | some v => obtain ⟨x, hx, hxk⟩ := h2 k hk v hf; exact absurd hxk (g2 x hx)
    rw [hn]
    simp [Instr.lookup, run_underlying ht, MapKept.run_getObj_map hb, law.check w _ (keyAt F k), g1, hz, Result.andThen]
  · obtain ⟨k', hk', e1, e2⟩ := h1 e0 (List.mem_of_getElem? g2)
    rw [g3] at e1
    have : k = k' := F.inj k k' hk hk' (by injection e1)
    subst this
    rw [e2]
    simp [Instr.lookup, run_underlying ht, MapKept.run_getObj_map hb, law.check w _ (keyAt F k), g1, Result.andThen]

/-- 'len(m)'. -/
theorem MapIs.len (h : MapIs w b ky f) {t e : TypeId} (ht : Ybaf.prog.underlying t = some (.map 9 e)) (ty : TypeId) : (Builtin.len_ #[t] ty #[.map (some b)]).run Ybaf.prog w = .ok (.int .i64 (cnt f)) w := by
  obtain ⟨es, clock, hb, _, _, _, h4⟩ := h
  simp [Builtin.len_, run_underlying ht, MapKept.run_getObj_map hb, Result.andThen, goInt, h4]

theorem grown_set {es es' : Array MapEntry} {clock clock' : Nat} (hb : w.heap[b]? = some (.map es clock)) : w.grownBy (setBlock w b (.map es' clock')) (some b) :=
  ⟨rfl, rfl, rfl, by simp [setBlock], fun i _ hi => heap_setBlock_other hb _ (fun e => hi (by rw [e]))⟩

theorem key_ne (F : KeyFam ky) {i j : Nat} (hi : i < 3) (hj : j < 3) (h : i ≠ j) : Value.string (ky i) ≠ .string (ky j) := fun e => h (F.inj i j hi hj (by injection e))

/-- 'm[k] = v'. -/
theorem MapIs.put (h : MapIs w b ky f) (F : KeyFam ky) {t e : TypeId} (ht : Ybaf.prog.underlying t = some (.map 9 e)) {k : Nat} (hk : k < 3) (v : Value) :
    ∃ w', (Instr.mapUpdate t (.map (some b)) (.string (ky k)) v).run Ybaf.prog w = .ok () w' ∧ MapIs w' b ky (upd f k (some v)) ∧ w.grownBy w' (some b) ∧ w'.heap.size = w.heap.size := by
  obtain ⟨es, clock, hb, h1, h2, h3, h4⟩ := h
  rcases law.find w (keyAt F k) es.toList (keys_of F h1) with ⟨g1, g2⟩ | ⟨j, e0, g1, g2, g3⟩
  · have hn : f k = none := by
      cases hf : f k with
      | none => rfl
      | some v => obtain ⟨x, hx, hxk⟩ := h2 k hk v hf; exact absurd hxk (g2 x hx)
    refine ⟨setBlock w b (.map (es.push ⟨.string (ky k), v, clock⟩) (clock + 1)), ?_, ⟨_, _, heap_setBlock_same hb _, ?_, ?_, ?_, ?_⟩, grown_set hb, by simp [setBlock]⟩
    · simp [Instr.mapUpdate, run_underlying ht, MapKept.run_getObj_map hb, law.check w false (keyAt F k), g1, MapKept.run_setObj_map _ hb, Result.andThen, setBlock]
    · intro x hx
      simp only [Array.toList_push, List.mem_append, List.mem_singleton] at hx
      rcases hx with hx | rfl
      · obtain ⟨k', hk', e1, e2⟩ := h1 x hx
        have hne : k' ≠ k := by rintro rfl; rw [hn] at e2; cases e2
        exact ⟨k', hk', e1, by rw [upd_other f hne]; exact e2⟩
      · exact ⟨k, hk, rfl, upd_same _ _ _⟩
    · intro k' hk' u hu
      simp only [Array.toList_push, List.mem_append, List.mem_singleton]
      by_cases e : k' = k
      · subst e; exact ⟨_, .inr rfl, rfl⟩
      · rw [upd_other f e] at hu
        obtain ⟨x, hx, hxk⟩ := h2 k' hk' u hu
        exact ⟨x, .inl hx, hxk⟩
    · rw [Array.toList_push, List.pairwise_append]
      exact ⟨h3, by simp, fun x hx y hy => by simp at hy; subst hy; exact g2 x hx⟩
    · have := cnt_upd f k (some v) hk
      rw [hn] at this
      simp [one] at this
      simp [h4]; omega
  · obtain ⟨k', hk', e1, e2⟩ := h1 e0 (List.mem_of_getElem? g2)
    rw [g3] at e1
    have hkk : k = k' := F.inj k k' hk hk' (by injection e1)
    subst hkk
    have hj : es[j]? = some e0 := by simpa using g2
    have hjl : j < es.toList.length := (List.getElem?_eq_some_iff.1 g2).1
    have hlist : (es.modify j (fun e' => { e' with key := .string (ky k), val := v })).toList = es.toList.set j { e0 with key := .string (ky k), val := v } := by
      rw [Array.toList_modify]
      apply List.ext_getElem?
      intro i
      rw [List.getElem?_modify, List.getElem?_set]
      by_cases hij : j = i
      · subst hij; simp [g2]; simpa using hjl
      · simp [hij]
    have hkeys : (es.toList.set j { e0 with key := .string (ky k), val := v }).map (·.key) = es.toList.map (·.key) := by
      rw [List.map_set]
      apply List.ext_getElem?
      intro i
      rw [List.getElem?_set]
      by_cases hij : j = i
      · subst hij; simp [g2, g3]; simpa using hjl
      · simp [hij]
    refine ⟨setBlock w b (.map (es.modify j (fun e' => { e' with key := .string (ky k), val := v })) clock), ?_, ⟨_, _, heap_setBlock_same hb _, ?_, ?_, ?_, ?_⟩, grown_set hb, by simp [setBlock]⟩
    · simp [Instr.mapUpdate, run_underlying ht, MapKept.run_getObj_map hb, law.check w false (keyAt F k), g1, hj, g3, law.stays w (keyAt F k), MapKept.run_setObj_map _ hb, Result.andThen, setBlock]
    · rw [hlist]
      intro x hx
      obtain ⟨i, hi, ex⟩ := List.getElem_of_mem hx
      rw [List.getElem_set] at ex
      split at ex
      · subst ex; exact ⟨k, hk, rfl, upd_same _ _ _⟩
      · rename_i hne
        have hi' : i < es.toList.length := by simpa using hi
        subst ex
        obtain ⟨k', hk', q1, q2⟩ := h1 _ (List.getElem_mem hi')
        have hkk' : k' ≠ k := by
          rintro rfl
          rcases Nat.lt_or_gt_of_ne hne with hlt | hgt
          · have := List.pairwise_iff_getElem.1 h3 j i hjl hi' hlt
            rw [q1] at this
            exact this (by rw [← g3]; exact congrArg MapEntry.key (by rw [List.getElem?_eq_getElem hjl] at g2; exact Option.some.inj g2))
          · have := List.pairwise_iff_getElem.1 h3 i j hi' hjl hgt
            rw [q1] at this
            exact this (by rw [← g3]; exact congrArg MapEntry.key (by rw [List.getElem?_eq_getElem hjl] at g2; exact (Option.some.inj g2).symm))
        exact ⟨k', hk', q1, by rw [upd_other f hkk']; exact q2⟩
    · rw [hlist]
      intro k' hk' u hu
      have hm : Value.string (ky k') ∈ es.toList.map (·.key) := by
        by_cases e : k' = k
        · subst e; exact List.mem_map.2 ⟨e0, List.mem_of_getElem? g2, g3⟩
        · rw [upd_other f e] at hu
          obtain ⟨x, hx, hxk⟩ := h2 k' hk' u hu
          exact List.mem_map.2 ⟨x, hx, hxk⟩
      rw [← hkeys] at hm
      obtain ⟨x, hx, hxk⟩ := List.mem_map.1 hm
      exact ⟨x, hx, hxk⟩
    · rw [hlist]
      have hp : (es.toList.map (·.key)).Pairwise (· ≠ ·) := List.pairwise_map.2 h3
      rw [← hkeys] at hp
      exact List.pairwise_map.1 hp
    · have := cnt_upd f k (some v) hk
      rw [e2] at this
      simp [one] at this
      simp [h4]; omega

/-- 'delete(m, k)'. -/
theorem MapIs.del (h : MapIs w b ky f) (F : KeyFam ky) {t e : TypeId} (ht : Ybaf.prog.underlying t = some (.map 9 e)) {k : Nat} (hk : k < 3) (ty : TypeId) :
    ∃ w', (Builtin.delete_ #[t, 9] ty #[.map (some b), .string (ky k)]).run Ybaf.prog w = .ok (.tuple #[]) w' ∧ MapIs w' b ky (upd f k none) ∧ w.grownBy w' (some b) := by
  obtain ⟨es, clock, hb, h1, h2, h3, h4⟩ := h
  rcases law.find w (keyAt F k) es.toList (keys_of F h1) with ⟨g1, g2⟩ | ⟨j, e0, g1, g2, g3⟩
  · have hn : f k = none := by
      cases hf : f k with
      | none => rfl
      | some v => obtain ⟨x, hx, hxk⟩ := h2 k hk v hf; exact absurd hxk (g2 x hx)
    have hu : ∀ i, upd f k none i = f i := by
      intro i
      by_cases e : i = k
      · subst e; rw [upd_same, hn]
      · exact upd_other f e _
    refine ⟨setBlock w b (.map es clock), ?_, ⟨_, _, heap_setBlock_same hb _, ?_, ?_, h3, ?_⟩, grown_set hb⟩
    · simp [Builtin.delete_, run_underlying ht, MapKept.run_getObj_map hb, law.check w _ (keyAt F k), g1, MapKept.run_setObj_map _ hb, Result.andThen, setBlock]
    · intro x hx
      obtain ⟨k', hk', e1, e2⟩ := h1 x hx
      exact ⟨k', hk', e1, (hu k').trans e2⟩
    · intro k' hk' u hu'
      exact h2 k' hk' u ((hu k').symm.trans hu')
    · have := cnt_upd f k none hk
      rw [hn] at this
      omega
  · obtain ⟨k', hk', e1, e2⟩ := h1 e0 (List.mem_of_getElem? g2)
    rw [g3] at e1
    have hkk : k = k' := F.inj k k' hk hk' (by injection e1)
    subst hkk
    have hjl : j < es.toList.length := (List.getElem?_eq_some_iff.1 g2).1
    have hjs : j < es.size := by simpa using hjl
    have hsub : (es.eraseIdxIfInBounds j).toList = es.toList.eraseIdx j := by
      unfold Array.eraseIdxIfInBounds
      rw [dif_pos hjs]
      simp
    have he0 : es.toList[j]'hjl = e0 := by rw [List.getElem?_eq_getElem hjl] at g2; exact Option.some.inj g2
    refine ⟨setBlock w b (.map (es.eraseIdxIfInBounds j) clock), ?_, ⟨_, _, heap_setBlock_same hb _, ?_, ?_, ?_, ?_⟩, grown_set hb⟩
    · simp [Builtin.delete_, run_underlying ht, MapKept.run_getObj_map hb, law.check w _ (keyAt F k), g1, MapKept.run_setObj_map _ hb, Result.andThen, setBlock]
    · rw [hsub]
      intro x hx
      obtain ⟨i, hne, hi⟩ := List.mem_eraseIdx_iff_getElem?.1 hx
      obtain ⟨hi', rfl⟩ := List.getElem?_eq_some_iff.1 hi
      obtain ⟨k', hk', q1, q2⟩ := h1 _ (List.getElem_mem hi')
      have hkk' : k' ≠ k := by
        rintro rfl
        rcases Nat.lt_or_gt_of_ne hne with hlt | hgt
        · have := List.pairwise_iff_getElem.1 h3 i j hi' hjl hlt
          rw [q1, he0, g3] at this
          exact this rfl
        · have := List.pairwise_iff_getElem.1 h3 j i hjl hi' hgt
          rw [q1, he0, g3] at this
          exact this rfl
      exact ⟨k', hk', q1, by rw [upd_other f hkk']; exact q2⟩
    · rw [hsub]
      intro k' hk' u hu
      have e : k' ≠ k := by rintro rfl; rw [upd_same] at hu; cases hu
      rw [upd_other f e] at hu
      obtain ⟨x, hx, hxk⟩ := h2 k' hk' u hu
      refine ⟨x, ?_, hxk⟩
      obtain ⟨i, hi, rfl⟩ := List.getElem_of_mem hx
      refine List.mem_eraseIdx_iff_getElem?.2 ⟨i, ?_, List.getElem?_eq_getElem hi⟩
      rintro rfl
      rw [he0, g3] at hxk
      exact e (F.inj _ _ hk' hk (by injection hxk.symm))
    · rw [hsub]
      exact h3.sublist (List.eraseIdx_sublist _ _)
    · have hc := cnt_upd f k none hk
      rw [e2] at hc
      have hsz : (es.eraseIdxIfInBounds j).size = es.size - 1 := by
        rw [← Array.length_toList, hsub, List.length_eraseIdx_of_lt hjl, Array.length_toList]
      rw [hsz, h4]
      simp [one] at hc
      omega
end
end Go.Proofs.YbulkchjmFmt
