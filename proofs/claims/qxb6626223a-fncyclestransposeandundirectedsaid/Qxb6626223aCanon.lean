/-
  THE GROUPS IN THEIR ORDER: plain lists, no Go in sight. Two lists of groups that are sorted inside, sorted by their first agents and hold the same groups are one.
-/
import Derived.Test.Qxb6626223aTarjan
namespace Go.Proofs.Qxb6626223a.Canon
open Go.Proofs.Qxb6626223a.Tarjan
set_option linter.unusedVariables false
set_option linter.unusedSimpArgs false
set_option linter.unusedSectionVars false

theorem sorted_unique {α : Type} {lt : α → α → Prop} (irr : ∀ a, ¬ lt a a) (tr : ∀ a b c, lt a b → lt b c → lt a c) : ∀ {l1 l2 : List α}, l1.Pairwise lt → l2.Pairwise lt → (∀ x, x ∈ l1 ↔ x ∈ l2) → l1 = l2
  | [], [], _, _, _ => rfl
  | [], b :: r, _, _, h => by have := (h b).2 (by simp); simp at this
  | a :: r, [], _, _, h => by have := (h a).1 (by simp); simp at this
  | a :: r1, b :: r2, h1, h2, h => by
    rw [List.pairwise_cons] at h1 h2
    have e : a = b := by
      refine Classical.byContradiction fun hne => ?_
      have ha := (h a).1 (by simp)
      have hb := (h b).2 (by simp)
      rcases List.mem_cons.1 ha with e | ha
      · exact hne e
      · rcases List.mem_cons.1 hb with e | hb
        · exact hne e.symm
        · exact irr a (tr a b a (h1.1 b hb) (h2.1 a ha))
    subst e
    have er : r1 = r2 := sorted_unique irr tr h1.2 h2.2 fun x => by
      constructor
      · intro hx
        rcases List.mem_cons.1 ((h x).1 (by simp [hx])) with e | hx'
        · subst e; exact absurd (h1.1 x hx) (irr x)
        · exact hx'
      · intro hx
        rcases List.mem_cons.1 ((h x).2 (by simp [hx])) with e | hx'
        · subst e; exact absurd (h2.1 x hx) (irr x)
        · exact hx'
    rw [er]

section
variable {α : Type} [DecidableEq α] (lt : α → α → Prop)

/-- g is before h: its first agent is less. -/
def HeadLt : List α → List α → Prop
  | a :: _, b :: _ => lt a b
  | _, _ => False

/-- The list of the groups of 'rel', each sorted, in the order of their first agents. -/
structure IsGroups (rel : α → α → Prop) (L : List (List α)) : Prop where
  inner : ∀ g ∈ L, g.Pairwise lt
  outer : L.Pairwise (HeadLt lt)
  long : ∀ g ∈ L, 1 < g.length
  group : ∀ g ∈ L, ∀ a ∈ g, ∀ z, z ∈ g ↔ rel a z
  all : ∀ a z, a ≠ z → rel a z → ∃ g ∈ L, a ∈ g

variable {lt} {rel : α → α → Prop}

theorem headLt_irr (irr : ∀ a, ¬ lt a a) : ∀ g : List α, ¬ HeadLt lt g g
  | [], h => h
  | a :: _, h => irr a h
theorem headLt_trans (tr : ∀ a b c, lt a b → lt b c → lt a c) : ∀ f g h : List α, HeadLt lt f g → HeadLt lt g h → HeadLt lt f h
  | [], _, _, h, _ => h.elim
  | _ :: _, [], _, h, _ => h.elim
  | _ :: _, _ :: _, [], _, k => k.elim
  | a :: _, b :: _, c :: _, h, k => tr a b c h k

theorem IsGroups.mem_sub (irr : ∀ a, ¬ lt a a) (tr : ∀ a b c, lt a b → lt b c → lt a c) {L M : List (List α)} (h : IsGroups lt rel L) (k : IsGroups lt rel M) {g : List α} (hg : g ∈ L) : g ∈ M := by
  match g, hg, h.long g hg with
  | a :: b :: r, hg, _ =>
    have hp := h.inner _ hg
    have hne : a ≠ b := fun e => irr a (by rw [List.pairwise_cons] at hp; have := hp.1 b (by simp); rwa [← e] at this)
    obtain ⟨g', hg', ha⟩ := k.all a b hne ((h.group _ hg a (by simp) b).1 (by simp))
    have : a :: b :: r = g' := sorted_unique irr tr hp (k.inner g' hg') fun x => by rw [h.group _ hg a (by simp) x, k.group g' hg' a ha x]
    rw [this]
    exact hg'

/-- There is but one. -/
theorem IsGroups.unique (irr : ∀ a, ¬ lt a a) (tr : ∀ a b c, lt a b → lt b c → lt a c) {L M : List (List α)} (h : IsGroups lt rel L) (k : IsGroups lt rel M) : L = M :=
  sorted_unique (headLt_irr irr) (headLt_trans tr) h.outer k.outer fun g => ⟨fun hg => h.mem_sub irr tr k hg, fun hg => k.mem_sub irr tr h hg⟩

end
end Go.Proofs.Qxb6626223a.Canon
