/-
  ROWS OF ROWS that a call owns.
-/
import Derived.Test.Qxb6626223aSame
import Derived.Deep.OwnRows
namespace Go.Proofs.Qxb6626223a.Nest
open Go.RowKit
open Go.Proofs.Qxb6626223a.Frame Go.Proofs.Qxb6626223a.Find Go.Proofs.Qxb6626223a.RowsS Go.Proofs.Qxb6626223a.Insert Go.Proofs.Qxb6626223a.Agents
set_option linter.unusedVariables false
set_option linter.unusedSimpArgs false

theorem info3 : (Try.prog.info? 3).map (fun i => (i.zero, i.size, i.bytes)) = some (some (.int .i64 0), 1, 8) := by kernel_rfl
theorem info4 : (Try.prog.info? 4).map (fun i => (i.zero, i.size, i.bytes)) = some (some (.bool false), 1, 1) := by kernel_rfl
theorem info34 : (Try.prog.info? 34).map (fun i => (i.zero, i.size, i.bytes)) = some (some (.slice Option.none 0 0), 1, 24) := by kernel_rfl
theorem info50 : (Try.prog.info? 50).map (fun i => (i.zero, i.size, i.bytes)) = some (some (.slice Option.none 0 0), 1, 24) := by kernel_rfl
theorem info52 : (Try.prog.info? 52).map (fun i => (i.zero, i.size, i.bytes)) = some (some (.slice Option.none 0 0), 1, 24) := by kernel_rfl

/-- 'append(s, x)' onto a row of one-cell elements. -/
theorem push_any {w : World} {v : Value} {n : Nat} {xs : List Value} (t e : TypeId) (z : Value) (bytes : Nat) (ht : Try.prog.underlying t = some (.slice e)) (hinfo : (Try.prog.info? e).map (fun i => (i.zero, i.size, i.bytes)) = some (some z, 1, bytes)) (hz : z.cells.size = 1) (hb : bytes ≤ 64)
    (h : w.ownsRow 0 e 1 v n xs) (x : Value) (hx : x.oneCell' = true) (hn : n ≤ 1048576) :
    ∃ v' w', (Builtin.append_ #[t, t] t #[v, .slice (some ⟨w.heap.size, 0, Option.none⟩) 1 1]).run Try.prog (w.alloc (.cells #[x] e)) = .ok v' w' ∧ w'.ownsRow 0 e 1 v' (n + 1) (xs ++ [x]) ∧ Kept (rowOf v) w w' ∧ Onward w v v' := by
  obtain ⟨i, hi, hz', hs, hb'⟩ := info_parts hinfo
  have hown : (w.alloc (.cells #[x] e)).ownsRow 0 e 1 v n xs := World.ownsRow.alloc h _
  obtain ⟨v', w', hrun, h1, h2, h3⟩ := run_append_owns (P := Try.prog) (w.alloc (.cells #[x] e)) t t t e i z 1 bytes ht hi hz' hs hb' hz (by decide) v n xs hown _ 1 [x] (src_one w t e ht _ hx e) (by unfold maxLen; omega) (by
    have : (n + 1) * bytes ≤ (n + 1) * 64 := Nat.mul_le_mul_left _ hb
    omega)
  refine ⟨v', w', hrun, h1, h2.alloc_from, ?_⟩
  rcases h3 with e' | ⟨g, e', hg⟩
  · exact .inl e'
  · exact .inr ⟨g, e', by rw [World.size_alloc] at hg; omega⟩

theorem own_some' {w : World} {e : TypeId} {v : Value} {n : Nat} {xs : List Value} (h : w.ownsRow 0 e 1 v n xs) (hl : 0 < n) : ∃ g cap, v = .slice (some ⟨g, 0, Option.none⟩) n cap := by
  rcases h.2 with ⟨_, h0⟩ | ⟨g, cap, cur, e, _⟩
  · omega
  · exact ⟨g, cap, e⟩

/-- A row of n zero values, made. -/
theorem own_made (w : World) (e : TypeId) (z : Value) {n : Nat} (hn : n ≤ maxLen) : (w.alloc (.cells (madeCells #[z] n) e)).ownsRow 0 e 1 (.slice (some ⟨w.heap.size, 0, Option.none⟩) n n) n (List.replicate n z) := by
  refine ⟨by simp, .inr ⟨w.heap.size, n, _, rfl, Nat.zero_le _, block_new _ _, Nat.le_refl _, hn, by rw [size_madeCells, Nat.mul_one], ?_⟩⟩
  apply List.ext_getElem?
  intro j
  by_cases hj : j < n
  · rw [Nat.mul_one, List.getElem?_take_of_lt hj]
    simp [madeCells, hj, Nat.mod_one]
  · rw [List.getElem?_eq_none (by simp; omega), List.getElem?_eq_none (by simp; omega)]

/-- A row of n rows, all of whose blocks are B or newer. -/
def Nest (B : Nat) (w : World) (e eo : TypeId) (g n : Nat) (Ls : List (List Value)) : Prop :=
  ∃ vs, w.ownsRow 0 eo 1 (.slice (some ⟨g, 0, Option.none⟩) n n) n vs ∧ Ls.length = n ∧ B ≤ g ∧ e ≠ eo ∧
    (∀ (i : Nat) u l, vs[i]? = some u → Ls[i]? = some l → w.ownsRow 0 e 1 u l.length l ∧ ∀ k, u.ownBlock = some k → B ≤ k) ∧
    ∀ (i j : Nat) u u' k, i ≠ j → vs[i]? = some u → vs[j]? = some u' → u.ownBlock = some k → u'.ownBlock ≠ some k

theorem Nest.start (w : World) {e eo : TypeId} (he : e ≠ eo) {n : Nat} (hn : n ≤ maxLen) : Nest w.heap.size (w.alloc (.cells (madeCells #[.slice Option.none 0 0] n) eo)) e eo w.heap.size n (List.replicate n []) := by
  refine ⟨_, own_made w eo _ hn, by simp, Nat.le_refl _, he, fun i u l hu hl => ?_, fun i j u u' k hij hu hu' hk => ?_⟩
  · have := List.getElem?_eq_some_iff.1 hu
    simp at this
    obtain ⟨_, rfl⟩ := this
    have := List.getElem?_eq_some_iff.1 hl
    simp at this
    obtain ⟨_, rfl⟩ := this
    exact ⟨World.ownsRow_nil _ _ _ _, fun k hk => by simp [Value.ownBlock] at hk⟩
  · have := List.getElem?_eq_some_iff.1 hu
    simp at this
    obtain ⟨_, rfl⟩ := this
    simp [Value.ownBlock] at hk

theorem Nest.kept {B : Nat} {w w' : World} {e eo : TypeId} {g n : Nat} {Ls : List (List Value)} (h : Nest B w e eo g n Ls) {S : Nat → Prop} (hk : Kept S w w') (hS : ∀ k, k < w.heap.size → ¬ S k) : Nest B w' e eo g n Ls := by
  obtain ⟨vs, h1, h2, h3, h4, h5, h6⟩ := h
  refine ⟨vs, ownsRow_keep h1 hk (fun k hk' => hS k (ownsRow_lt h1 hk')), h2, h3, h4, fun i u l hu hl => ?_, h6⟩
  obtain ⟨a, b⟩ := h5 i u l hu hl
  exact ⟨ownsRow_keep a hk (fun k hk' => hS k (ownsRow_lt a hk')), b⟩

/-- The i-th row, read. -/
theorem Nest.read {B : Nat} {w : World} {e eo : TypeId} {g n : Nat} {Ls : List (List Value)} (h : Nest B w e eo g n Ls) {i : Nat} {l : List Value} (hl : Ls[i]? = some l) :
    ∃ ao cap, w.cell? ⟨g, i, Option.none⟩ = some (.slice ao l.length cap) ∧ At w ao l := by
  obtain ⟨vs, h1, h2, h3, h4, h5, h6⟩ := h
  have hi : i < n := by have := (List.getElem?_eq_some_iff.1 hl).1; omega
  have hvl : vs.length = n := by have := h1.1; omega
  obtain ⟨u, hu⟩ : ∃ u, vs[i]? = some u := ⟨_, List.getElem?_eq_getElem (by omega)⟩
  obtain ⟨ao, cap, e, _, _, ha, _⟩ := own_at (h5 i u l hu hl).1
  subst e
  exact ⟨ao, cap, (own_cell h1 hu).1, ha⟩

/-- 'x[i] = append(x[i], y)'. -/
theorem Nest.push {B : Nat} {w : World} {e eo : TypeId} {g n : Nat} {Ls : List (List Value)} (h : Nest B w e eo g n Ls) {i : Nat} {l : List Value} (hl : Ls[i]? = some l)
    (t : TypeId) (z : Value) (bytes : Nat) (ht : Try.prog.underlying t = some (.slice e)) (hinfo : (Try.prog.info? e).map (fun i => (i.zero, i.size, i.bytes)) = some (some z, 1, bytes)) (hz : z.cells.size = 1) (hb : bytes ≤ 64)
    (x : Value) (hx : x.oneCell' = true) (hn : l.length ≤ 1048576) :
    ∃ ao cap a2 n2 c2 w1, w.cell? ⟨g, i, Option.none⟩ = some (.slice ao l.length cap) ∧ w1.cell? ⟨g, i, Option.none⟩ = some (.slice ao l.length cap) ∧ w1.frozen? ⟨g, i, Option.none⟩ = false ∧
      (Builtin.append_ #[t, t] t #[.slice ao l.length cap, .slice (some ⟨w.heap.size, 0, Option.none⟩) 1 1]).run Try.prog (w.alloc (.cells #[x] e)) = .ok (.slice a2 n2 c2) w1 ∧
      Nest B (w1.setCell ⟨g, i, Option.none⟩ (.slice a2 n2 c2)) e eo g n (Ls.set i (l ++ [x])) ∧ Kept (fun k => B ≤ k) w (w1.setCell ⟨g, i, Option.none⟩ (.slice a2 n2 c2)) := by
  obtain ⟨vs, h1, h2, h3, h4, h5, h6⟩ := h
  have hi : i < n := by have := (List.getElem?_eq_some_iff.1 hl).1; omega
  have hvl : vs.length = n := by have := h1.1; omega
  obtain ⟨u, hu⟩ : ∃ u, vs[i]? = some u := ⟨_, List.getElem?_eq_getElem (by omega)⟩
  obtain ⟨own, fr⟩ := h5 i u l hu hl
  obtain ⟨ao, cap, rfl, _, _, ha, _⟩ := own_at own
  obtain ⟨u', w1, hrun, o1, k1, on1⟩ := push_any t e z bytes ht hinfo hz hb own x hx hn
  have ng : ¬ rowOf (.slice ao l.length cap) g := fun he => by
    rcases h1.2 with ⟨h0, _⟩ | ⟨g', cap', cur, he', hb', hg, _⟩
    · simp at h0
    · simp only [Value.slice.injEq, Option.some.injEq, Addr.mk.injEq, and_true, true_and] at he'
      obtain ⟨rfl, rfl⟩ := he'
      exact ownsRow_type own hg h4 he
  have h1' := ownsRow_keep h1 k1 (fun k hk => by simp [Value.ownBlock] at hk; subst hk; exact ng)
  obtain ⟨c1, f1⟩ := own_cell h1' hu
  have glt : g < w.heap.size := ownsRow_lt h1 rfl
  have fr' : ∀ k, u'.ownBlock = some k → B ≤ k := fun k hk => by
    rcases on1 with e' | ⟨g', e', hg'⟩
    · exact fr k (by rw [← e']; exact hk)
    · rw [e'] at hk; cases hk; omega
  have nb : ∀ k, u'.ownBlock = some k → k ≠ g := fun k hk e' => by
    subst e'
    rcases on1 with e' | ⟨g', e', hg'⟩
    · exact ng (by unfold rowOf; rw [← e']; exact hk)
    · rw [e'] at hk; cases hk; omega
  have kset : Kept (fun k => k = g) w1 (w1.setCell ⟨g, i, Option.none⟩ u') := Kept.setCell (S := fun k => k = g) (p := ⟨g, i, Option.none⟩) (Kept.refl _ _) (.inl rfl) _
  obtain ⟨a2, c2, e2, _⟩ := own_at o1
  obtain ⟨n2, hn2⟩ : ∃ n2, n2 = l.length + 1 := ⟨_, rfl⟩
  rw [← hn2] at e2
  refine ⟨ao, cap, a2, n2, c2, w1, (own_cell h1 hu).1, c1, f1, by rw [← e2]; exact hrun, ?_⟩
  rw [← e2]
  refine ⟨ ⟨vs.set i u', own_set h1' hi u', by rw [List.length_set]; exact h2, h3, h4, fun j v m hv hm => ?_, fun j j' v v' k hj hv hv' hk => ?_⟩, ?_⟩
  · by_cases e' : j = i
    · subst e'
      rw [List.getElem?_set_self (by omega)] at hv hm
      cases hv
      cases hm
      refine ⟨?_, fr'⟩
      rw [List.length_append, List.length_singleton]
      exact ownsRow_keep o1 kset (fun k hk => nb k hk)
    · rw [List.getElem?_set_ne (fun h => e' h.symm)] at hv hm
      obtain ⟨a, b⟩ := h5 j v m hv hm
      refine ⟨ownsRow_keep (ownsRow_keep a k1 (fun k hk he => h6 j i v _ k e' hv hu hk he)) kset (fun k hk e'' => ?_), b⟩
      subst e''
      rcases h1.2 with ⟨h0, _⟩ | ⟨g', cap', cur, he', hb', hg, _⟩
      · simp at h0
      · simp only [Value.slice.injEq, Option.some.injEq, Addr.mk.injEq, and_true, true_and] at he'
        obtain ⟨rfl, rfl⟩ := he'
        exact ownsRow_type a hg h4 hk
  · have other : ∀ (p : Nat) v k, p ≠ i → vs[p]? = some v → v.ownBlock = some k → u'.ownBlock ≠ some k := fun p v k hp hv hk hu' => by
      rcases on1 with e' | ⟨g', e', hg'⟩
      · exact h6 p i v _ k hp hv hu hk (by rw [← e']; exact hu')
      · rw [e'] at hu'; cases hu'
        obtain ⟨m, hm⟩ : ∃ m, Ls[p]? = some m := ⟨_, List.getElem?_eq_getElem (by have := (List.getElem?_eq_some_iff.1 hv).1; omega)⟩
        have := ownsRow_lt (h5 p v m hv hm).1 hk
        omega
    by_cases ej : j = i
    · subst ej
      rw [List.getElem?_set_self (by omega)] at hv
      cases hv
      rw [List.getElem?_set_ne hj] at hv'
      exact fun hk' => other j' v' k (fun e => hj e.symm) hv' hk' hk
    · rw [List.getElem?_set_ne (fun h => ej h.symm)] at hv
      by_cases ej' : j' = i
      · subst ej'
        rw [List.getElem?_set_self (by omega)] at hv'
        cases hv'
        exact other j v k ej hv hk
      · rw [List.getElem?_set_ne (fun h => ej' h.symm)] at hv'
        exact h6 j j' v v' k hj hv hv' hk
  · refine Kept.setCell ?_ (.inl h3) _
    exact k1.mono fun k _ hk => fr k hk

end Go.Proofs.Qxb6626223a.Nest
