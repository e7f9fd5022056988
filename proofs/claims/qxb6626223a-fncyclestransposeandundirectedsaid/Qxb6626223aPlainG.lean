/-
  THE MODELS' PLAIN LAWS: groups gathered along a sorted list of agents, the breadth-first search, the union-find. No Go in sight.
-/
import Derived.Test.Qxb6626223aGraph
namespace Go.Proofs.Qxb6626223a.PlainG
open Go.Proofs.Qxb6626223a.Tarjan Go.Proofs.Qxb6626223a.Canon Go.Proofs.Qxb6626223a.Graph
set_option linter.unusedVariables false
set_option linter.unusedSimpArgs false
set_option linter.unusedSectionVars false

section
variable {α : Type} [DecidableEq α] {lt : α → α → Prop} {rel : α → α → Prop}

/-- What the relation of the groups must be over the agents A. -/
structure Over (A : List α) (rel : α → α → Prop) : Prop where
  refl : ∀ a, rel a a
  symm : ∀ a b, rel a b → rel b a
  trans : ∀ a b c, rel a b → rel b c → rel a c
  mem : ∀ a z, a ≠ z → rel a z → a ∈ A

/-- The groups of the first i agents. -/
structure GInv (lt : α → α → Prop) (A : List α) (rel : α → α → Prop) (i : Nat) (L : List (List α)) : Prop where
  inner : ∀ g ∈ L, g.Pairwise lt
  outer : L.Pairwise (HeadLt lt)
  long : ∀ g ∈ L, 1 < g.length
  group : ∀ g ∈ L, ∀ a ∈ g, ∀ z, z ∈ g ↔ rel a z
  all : ∀ (k : Nat) a z, k < i → A[k]? = some a → a ≠ z → rel a z → ∃ g ∈ L, a ∈ g
  head : ∀ g ∈ L, ∃ (k : Nat) (a : α) (t : List α), k < i ∧ A[k]? = some a ∧ g = a :: t

theorem GInv.start (A : List α) : GInv lt A rel 0 [] := ⟨by simp, by simp, by simp, by simp, by omega, by simp⟩

theorem at_lt {A : List α} (h : A.Pairwise lt) {i j : Nat} {s t : α} (hij : i < j) (hi : A[i]? = some s) (hj : A[j]? = some t) : lt s t := by
  obtain ⟨h1, rfl⟩ := List.getElem?_eq_some_iff.1 hi
  obtain ⟨h2, rfl⟩ := List.getElem?_eq_some_iff.1 hj
  exact List.pairwise_iff_getElem.1 h i j h1 h2 hij

/-- Agent i is in an earlier agent's group. -/
theorem GInv.skip {A : List α} {i : Nat} {L : List (List α)} (irr : ∀ a, ¬ lt a a) (hA : A.Pairwise lt) (o : Over A rel) (h : GInv lt A rel i L) {a : α} (ha : A[i]? = some a)
    (hk : ∃ (k : Nat) (b : α), k < i ∧ A[k]? = some b ∧ rel b a) : GInv lt A rel (i + 1) L := by
  refine ⟨h.inner, h.outer, h.long, h.group, fun k c z hki hc hne hr => ?_, fun g hg => ?_⟩
  · by_cases e : k = i
    · subst e
      rw [ha] at hc; cases hc
      obtain ⟨k', b, h1, h2, h3⟩ := hk
      have hba : b ≠ a := fun e => irr a (by have := at_lt hA h1 h2 ha; rwa [e] at this)
      obtain ⟨g, hg, hb⟩ := h.all k' b a h1 h2 hba h3
      exact ⟨g, hg, (h.group g hg b hb a).2 h3⟩
    · exact h.all k c z (by omega) hc hne hr
  · obtain ⟨k, c, t, h1, h2, h3⟩ := h.head g hg
    exact ⟨k, c, t, by omega, h2, h3⟩

/-- Agent i is the first of its group, and alone. -/
theorem GInv.alone {A : List α} {i : Nat} {L : List (List α)} (h : GInv lt A rel i L) {a : α} (ha : A[i]? = some a) {g : List α} (hg : ∀ z, z ∈ g ↔ rel a z) (o : Over A rel) (hl : ¬ 1 < g.length) : GInv lt A rel (i + 1) L := by
  refine ⟨h.inner, h.outer, h.long, h.group, fun k c z hki hc hne hr => ?_, fun g hg => ?_⟩
  · by_cases e : k = i
    · subst e
      rw [ha] at hc; cases hc
      exfalso
      have h1 := (hg a).2 (o.refl a)
      have h2 := (hg z).2 hr
      match g, hl, h1, h2 with
      | [], _, h1, _ => simp at h1
      | [x], _, h1, h2 => simp at h1 h2; exact hne (h1.trans h2.symm)
      | _ :: _ :: _, hl, _, _ => simp at hl
    · exact h.all k c z (by omega) hc hne hr
  · obtain ⟨k, c, t, h1, h2, h3⟩ := h.head g hg
    exact ⟨k, c, t, by omega, h2, h3⟩

/-- .. and not alone. -/
theorem GInv.add {A : List α} {i : Nat} {L : List (List α)} (hA : A.Pairwise lt) (h : GInv lt A rel i L) {a : α} (ha : A[i]? = some a) {g : List α} (hg : ∀ z, z ∈ g ↔ rel a z) (o : Over A rel) (hl : 1 < g.length) (hs : g.Pairwise lt) (hh : ∃ t, g = a :: t) : GInv lt A rel (i + 1) (L ++ [g]) := by
  refine ⟨fun g' h' => ?_, ?_, fun g' h' => ?_, fun g' h' => ?_, fun k c z hki hc hne hr => ?_, fun g' h' => ?_⟩
  · rcases List.mem_append.1 h' with h' | h'
    · exact h.inner g' h'
    · rw [List.mem_singleton.1 h']; exact hs
  · rw [List.pairwise_append]
    refine ⟨h.outer, by simp, fun x hx y hy => ?_⟩
    rw [List.mem_singleton.1 hy]
    obtain ⟨k, c, t, h1, h2, rfl⟩ := h.head x hx
    obtain ⟨t', rfl⟩ := hh
    exact at_lt hA h1 h2 ha
  · rcases List.mem_append.1 h' with h' | h'
    · exact h.long g' h'
    · rw [List.mem_singleton.1 h']; exact hl
  · rcases List.mem_append.1 h' with h' | h'
    · exact h.group g' h'
    · rw [List.mem_singleton.1 h']
      intro b hb z
      have hb' := (hg b).1 hb
      rw [hg z]
      exact ⟨fun hz => o.trans _ _ _ (o.symm _ _ hb') hz, fun hz => o.trans _ _ _ hb' hz⟩
  · by_cases e : k = i
    · subst e
      rw [ha] at hc; cases hc
      exact ⟨g, by simp, (hg a).2 (o.refl a)⟩
    · obtain ⟨g', h1, h2⟩ := h.all k c z (by omega) hc hne hr
      exact ⟨g', by simp [h1], h2⟩
  · rcases List.mem_append.1 h' with h' | h'
    · obtain ⟨k, c, t, h1, h2, h3⟩ := h.head g' h'
      exact ⟨k, c, t, by omega, h2, h3⟩
    · rw [List.mem_singleton.1 h']
      obtain ⟨t, ht⟩ := hh
      exact ⟨i, a, t, by omega, ha, ht⟩

theorem GInv.done {A : List α} {L : List (List α)} (o : Over A rel) (h : GInv lt A rel A.length L) : IsGroups lt rel L := by
  refine ⟨h.inner, h.outer, h.long, h.group, fun a z hne hr => ?_⟩
  obtain ⟨k, hk⟩ := List.getElem?_of_mem (o.mem a z hne hr)
  exact h.all k a z (List.getElem?_eq_some_iff.1 hk).1 hk hne hr

/-- The group that is gathered from agent i up to agent j. -/
noncomputable def gath (A : List α) (rel : α → α → Prop) (a : α) (i j : Nat) : List α := ((A.take j).drop i).filter fun z => @decide (rel a z) (Classical.propDecidable _)

theorem gath_start (A : List α) (a : α) (i : Nat) : gath A rel a i i = [] := by
  unfold gath
  rw [List.drop_eq_nil_of_le (by rw [List.length_take]; omega)]
  rfl
theorem gath_in {A : List α} {a b : α} {i j : Nat} (hij : i ≤ j) (hb : A[j]? = some b) (hr : rel a b) : gath A rel a i (j + 1) = gath A rel a i j ++ [b] := by
  have := (List.getElem?_eq_some_iff.1 hb).1
  unfold gath
  rw [List.take_add_one, hb, List.drop_append_of_le_length (by rw [List.length_take]; omega), List.filter_append]
  simp [hr]
theorem gath_out {A : List α} {a b : α} {i j : Nat} (hij : i ≤ j) (hb : A[j]? = some b) (hr : ¬ rel a b) : gath A rel a i (j + 1) = gath A rel a i j := by
  have := (List.getElem?_eq_some_iff.1 hb).1
  unfold gath
  rw [List.take_add_one, hb, List.drop_append_of_le_length (by rw [List.length_take]; omega), List.filter_append]
  simp [hr]

/-- The whole group, if agent i is the first of it. -/
theorem gath_full {A : List α} (o : Over A rel) {a : α} {i : Nat} (ha : A[i]? = some a) (hf : ∀ (k : Nat) b, k < i → A[k]? = some b → ¬ rel b a) (hA : A.Pairwise lt) :
    (∀ z, z ∈ gath A rel a i A.length ↔ rel a z) ∧ (gath A rel a i A.length).Pairwise lt ∧ ∃ t, gath A rel a i A.length = a :: t := by
  unfold gath
  rw [List.take_length]
  refine ⟨fun z => ?_, (hA.sublist (List.drop_sublist _ _)).sublist List.filter_sublist, ?_⟩
  · rw [List.mem_filter]
    constructor
    · rintro ⟨_, h⟩
      simpa using h
    · intro h
      refine ⟨?_, by simpa using h⟩
      have hz : z ∈ A := by
        by_cases e : a = z
        · subst e; exact List.mem_of_getElem? ha
        · exact o.mem z a (fun e' => e e'.symm) (o.symm _ _ h)
      obtain ⟨k, hk⟩ := List.getElem?_of_mem hz
      have hik : i ≤ k := by
        refine Classical.byContradiction fun hn => ?_
        exact hf k z (by omega) hk (o.symm _ _ h)
      refine List.mem_of_getElem? (i := k - i) ?_
      rw [List.getElem?_drop, Nat.add_sub_cancel' hik]
      exact hk
  · obtain ⟨h1, h2⟩ := List.getElem?_eq_some_iff.1 ha
    rw [List.drop_eq_getElem_cons h1, h2, List.filter_cons_of_pos (by simpa using o.refl a)]
    exact ⟨_, rfl⟩

/-! ### mutual reach -/
theorem over_mutual {E : List (α × α)} {A : List α} (hA : ∀ p ∈ E, p.1 ∈ A ∧ p.2 ∈ A) : Over A (Mutual E) := by
  refine ⟨fun a => ⟨.refl _, .refl _⟩, fun a b h => ⟨h.2, h.1⟩, fun a b c h k => ⟨h.1.trans k.1, k.2.trans h.2⟩, fun a z hne h => ?_⟩
  cases h.1 with
  | refl => exact absurd rfl hne
  | step e _ => exact (hA _ (mem_succOf.1 e)).1

/-- The search's end: what is queued is what is reached. -/
theorem bfs_end {succ : α → List α} {s : α} {Q : List α} (h1 : s ∈ Q) (h2 : ∀ u ∈ Q, Reach succ s u) (h3 : ∀ u ∈ Q, ∀ v ∈ succ u, v ∈ Q) (v : α) : v ∈ Q ↔ Reach succ s v := by
  refine ⟨h2 v, fun h => ?_⟩
  have key : ∀ u v, Reach succ u v → u ∈ Q → v ∈ Q := fun u v hu => by
    clear h h2 h1
    induction hu with
    | refl => exact id
    | step e _ ih => exact fun hq => ih (h3 _ hq _ e)
  exact key s v h h1

end
end Go.Proofs.Qxb6626223a.PlainG
