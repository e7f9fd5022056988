/-
  AGENTS BY THEIR PLACES: the adjacency by numbers, the breadth-first search. No Go in sight.
-/
import Derived.Test.Qxb6626223aAgents
namespace Go.Proofs.Qxb6626223a.Index
open Go.Proofs.Qxb6626223a.Tarjan Go.Proofs.Qxb6626223a.Canon Go.Proofs.Qxb6626223a.Graph Go.Proofs.Qxb6626223a.PlainG Go.Proofs.Qxb6626223a.Order Go.Proofs.Qxb6626223a.Find Go.Proofs.Qxb6626223a.Agents
set_option linter.unusedVariables false
set_option linter.unusedSimpArgs false
set_option linter.unusedSectionVars false

theorem nodup_sub_len {α : Type} [DecidableEq α] : ∀ {Q U : List α}, Q.Nodup → (∀ v ∈ Q, v ∈ U) → Q.length ≤ U.length
  | [], U, _, _ => Nat.zero_le _
  | a :: r, U, h, hs => by
    rw [List.nodup_cons] at h
    have ha := hs a (by simp)
    have := nodup_sub_len (Q := r) (U := U.erase a) h.2 fun v hv => (List.mem_erase_of_ne (fun e => h.1 (by rw [← e]; exact hv))).2 (hs v (by simp [hv]))
    rw [List.length_erase_of_mem ha] at this
    have := List.length_pos_of_mem ha
    simp
    omega

theorem sorted_nodup {A : List ByteArray} (h : A.Pairwise slt) : A.Nodup := by
  unfold List.Nodup
  refine h.imp (S := fun a b => a ≠ b) ?_
  intro a b hab e
  rw [← e] at hab
  exact slt_irr a hab

theorem place_of_mem {A : List ByteArray} (h : A.Pairwise slt) {x : ByteArray} (hx : x ∈ A) {k : Nat} (hp : IsPlace A x k) : A[k]? = some x := by
  obtain ⟨i, hi⟩ := List.getElem?_of_mem hx
  obtain ⟨h1, h2, h3⟩ := hp
  have hki : ¬ i < k := fun hik => slt_irr x (h2 i x hik hi)
  by_cases e : i = k
  · rw [← e]; exact hi
  · obtain ⟨s, hs⟩ : ∃ s, A[k]? = some s := ⟨_, List.getElem?_eq_getElem (by have := (List.getElem?_eq_some_iff.1 hi).1; omega)⟩
    exact absurd (sorted_at h (by omega) hs hi) (h3 k s (Nat.le_refl _) hs)

theorem at_inj {A : List ByteArray} (h : A.Nodup) {i j : Nat} {a : ByteArray} (hi : A[i]? = some a) (hj : A[j]? = some a) : i = j :=
  (List.getElem?_inj (List.getElem?_eq_some_iff.1 hi).1 h).1 (hi.trans hj.symm)

/-- The adjacency by numbers. -/
def AdjOf (A : List ByteArray) (E : List (ByteArray × ByteArray)) (Ls : List (List Nat)) : Prop :=
  Ls.length = A.length ∧ (∀ (u : Nat) l, Ls[u]? = some l → l.length ≤ E.length ∧ ∀ v, v ∈ l ↔ ∃ a b, A[u]? = some a ∧ A[v]? = some b ∧ (a, b) ∈ E)

theorem AdjOf.start (A : List ByteArray) : AdjOf A [] (List.replicate A.length []) := by
  refine ⟨by simp, fun u l h => ?_⟩
  have := List.getElem?_eq_some_iff.1 h
  simp at this
  obtain ⟨_, rfl⟩ := this
  simp

theorem AdjOf.step {A : List ByteArray} {E : List (ByteArray × ByteArray)} {Ls : List (List Nat)} (h : AdjOf A E Ls) (hA : A.Nodup) {x y : ByteArray} {i j : Nat} (hi : A[i]? = some x) (hj : A[j]? = some y) {l : List Nat} (hl : Ls[i]? = some l) :
    AdjOf A (E ++ [(x, y)]) (Ls.set i (l ++ [j])) := by
  refine ⟨by rw [List.length_set]; exact h.1, fun u m hm => ?_⟩
  have hil := (List.getElem?_eq_some_iff.1 hl).1
  by_cases e : u = i
  · subst e
    rw [List.getElem?_set_self hil] at hm
    cases hm
    obtain ⟨h1, h2⟩ := h.2 u l hl
    refine ⟨by simp; omega, fun v => ?_⟩
    rw [List.mem_append, h2 v]
    constructor
    · rintro (⟨a, b, ha, hb, hab⟩ | hv)
      · exact ⟨a, b, ha, hb, by simp [hab]⟩
      · rw [List.mem_singleton.1 hv]
        exact ⟨x, y, hi, hj, by simp⟩
    · rintro ⟨a, b, ha, hb, hab⟩
      rcases List.mem_append.1 hab with hab | hab
      · exact .inl ⟨a, b, ha, hb, hab⟩
      · have := List.mem_singleton.1 hab
        cases this
        exact .inr (by rw [at_inj hA hb hj]; simp)
  · rw [List.getElem?_set_ne (fun h => e h.symm)] at hm
    obtain ⟨h1, h2⟩ := h.2 u m hm
    refine ⟨by simp; omega, fun v => ?_⟩
    rw [h2 v]
    constructor
    · rintro ⟨a, b, ha, hb, hab⟩
      exact ⟨a, b, ha, hb, by simp [hab]⟩
    · rintro ⟨a, b, ha, hb, hab⟩
      rcases List.mem_append.1 hab with hab | hab
      · exact ⟨a, b, ha, hb, hab⟩
      · have := List.mem_singleton.1 hab
        cases this
        exact absurd (at_inj hA ha hi) e

def sI (Ls : List (List Nat)) (u : Nat) : List Nat := Ls[u]?.getD []

theorem AdjOf.mem {A : List ByteArray} {E : List (ByteArray × ByteArray)} {Ls : List (List Nat)} (h : AdjOf A E Ls) {u v : Nat} : v ∈ sI Ls u ↔ ∃ a b, A[u]? = some a ∧ A[v]? = some b ∧ (a, b) ∈ E := by
  unfold sI
  cases hu : Ls[u]? with
  | some l => exact (h.2 u l hu).2 v
  | none =>
    constructor
    · intro h; simp at h
    · rintro ⟨a, b, ha, _⟩
      have h1 := (List.getElem?_eq_some_iff.1 ha).1
      have h2 := List.getElem?_eq_none_iff.1 hu
      have := h.1
      omega

theorem AdjOf.reach {A : List ByteArray} {E : List (ByteArray × ByteArray)} {Ls : List (List Nat)} (h : AdjOf A E Ls) (hA : A.Nodup) (hE : ∀ p ∈ E, p.1 ∈ A ∧ p.2 ∈ A) {i j : Nat} {a b : ByteArray} (hi : A[i]? = some a) (hj : A[j]? = some b) :
    Tarjan.Reach (sI Ls) i j ↔ Tarjan.Reach (succOf E) a b := by
  constructor
  · intro hr
    induction hr generalizing a with
    | refl =>
      rw [hi] at hj
      cases hj
      exact .refl _
    | step e _ ih =>
      obtain ⟨a', c, ha, hc, hac⟩ := h.mem.1 e
      rw [hi] at ha
      cases ha
      exact .step (mem_succOf.2 hac) (ih hc hj)
  · intro hr
    induction hr generalizing i with
    | refl => rw [at_inj hA hi hj]; exact .refl _
    | @step a c d e _ ih =>
      have hm := mem_succOf.1 e
      obtain ⟨k, hk⟩ := List.getElem?_of_mem (hE _ hm).2
      exact .step (h.mem.2 ⟨a, c, hi, hk, hm⟩) (ih hk hj)

/-- The search from s: Q is queued. -/
structure Bfs (succ : Nat → List Nat) (n s : Nat) (Q : List Nat) : Prop where
  start : s ∈ Q
  nodup : Q.Nodup
  lt : ∀ v ∈ Q, v < n
  reach : ∀ v ∈ Q, Tarjan.Reach succ s v

theorem Bfs.begin (succ : Nat → List Nat) {n s : Nat} (hs : s < n) : Bfs succ n s [s] :=
  ⟨by simp, by simp, by simp [hs], fun v hv => by simp at hv; rw [hv]; exact .refl _⟩

theorem Bfs.qlen {succ : Nat → List Nat} {n s : Nat} {Q : List Nat} (h : Bfs succ n s Q) : Q.length ≤ n := by
  have := nodup_sub_len h.nodup (U := List.range n) fun v hv => List.mem_range.2 (h.lt v hv)
  simpa using this

theorem Bfs.add {succ : Nat → List Nat} {n s : Nat} {Q : List Nat} (h : Bfs succ n s Q) {u v : Nat} (hu : u ∈ Q) (hv : v ∈ succ u) (hn : v < n) (hnot : v ∉ Q) : Bfs succ n s (Q ++ [v]) := by
  refine ⟨by simp [h.start], ?_, fun x hx => ?_, fun x hx => ?_⟩
  · rw [List.nodup_append]
    refine ⟨h.nodup, by simp, fun a ha b hb => ?_⟩
    rw [List.mem_singleton.1 hb]
    exact fun e => hnot (by rw [← e]; exact ha)
  · rcases List.mem_append.1 hx with hx | hx
    · exact h.lt x hx
    · rw [List.mem_singleton.1 hx]; exact hn
  · rcases List.mem_append.1 hx with hx | hx
    · exact h.reach x hx
    · rw [List.mem_singleton.1 hx]; exact (h.reach u hu).trans (.edge hv)

/-- The first h of the queue are done with. -/
def Past (succ : Nat → List Nat) (Q : List Nat) (h : Nat) : Prop := ∀ (i u : Nat), i < h → Q[i]? = some u → ∀ v ∈ succ u, v ∈ Q
theorem Past.grow {succ : Nat → List Nat} {Q : List Nat} {h : Nat} (p : Past succ Q h) (hq : h ≤ Q.length) (v : Nat) : Past succ (Q ++ [v]) h := fun i u hi hu x hx => by
  rw [List.getElem?_append_left (by omega)] at hu
  exact List.mem_append.2 (.inl (p i u hi hu x hx))
theorem Past.next {succ : Nat → List Nat} {Q : List Nat} {h u : Nat} (p : Past succ Q h) (hu : Q[h]? = some u) (hs : ∀ v ∈ succ u, v ∈ Q) : Past succ Q (h + 1) := fun i x hi hx v hv => by
  by_cases e : i = h
  · subst e
    rw [hu] at hx
    cases hx
    exact hs v hv
  · exact p i x (by omega) hx v hv

noncomputable def tb (p : Prop) : Bool := @decide p (Classical.propDecidable p)
theorem tb_true {p : Prop} (h : p) : tb p = true := by simp [tb, h]
theorem tb_false {p : Prop} (h : ¬ p) : tb p = false := by simp [tb, h]
theorem tb_iff {p : Prop} : tb p = true ↔ p := by simp [tb]

theorem Bfs.end {succ : Nat → List Nat} {n s : Nat} {Q : List Nat} (h : Bfs succ n s Q) (p : Past succ Q Q.length) (v : Nat) : v ∈ Q ↔ Tarjan.Reach succ s v :=
  bfs_end h.start h.reach (fun u hu x hx => by
    obtain ⟨i, hi⟩ := List.getElem?_of_mem hu
    exact p i u (List.getElem?_eq_some_iff.1 hi).1 hi x hx) v

end Go.Proofs.Qxb6626223a.Index
