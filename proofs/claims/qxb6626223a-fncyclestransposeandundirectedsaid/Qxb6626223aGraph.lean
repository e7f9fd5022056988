/-
  REACH FORWARD AND BACK: plain graphs, no Go in sight.
-/
import Derived.Test.Qxb6626223aCanon
namespace Go.Proofs.Qxb6626223a.Graph
open Go.Proofs.Qxb6626223a.Tarjan Go.Proofs.Qxb6626223a.Canon
set_option linter.unusedVariables false
set_option linter.unusedSimpArgs false
set_option linter.unusedSectionVars false

section
variable {α : Type} [DecidableEq α]

/-- The agents that a list of pairs leads to from a, in order. -/
def succOf (E : List (α × α)) (a : α) : List α := (E.filter fun p => p.1 = a).map (·.2)
theorem mem_succOf {E : List (α × α)} {a b : α} : b ∈ succOf E a ↔ (a, b) ∈ E := by
  unfold succOf
  rw [List.mem_map]
  constructor
  · rintro ⟨p, hp, rfl⟩
    rw [List.mem_filter] at hp
    obtain ⟨h1, h2⟩ := hp
    have : p.1 = a := by simpa using h2
    subst this
    exact h1
  · intro h
    exact ⟨(a, b), List.mem_filter.2 ⟨h, by simp⟩, rfl⟩

/-- Each reaches the other. -/
def Mutual (E : List (α × α)) (a b : α) : Prop := Reach (succOf E) a b ∧ Reach (succOf E) b a

theorem reach_mono {E F : List (α × α)} (h : ∀ p ∈ E, p ∈ F) {a b : α} (hr : Reach (succOf E) a b) : Reach (succOf F) a b := by
  induction hr with
  | refl => exact .refl _
  | step e _ ih => exact .step (mem_succOf.2 (h _ (mem_succOf.1 e))) ih

/-- Turned round. -/
theorem reach_turned {E F : List (α × α)} (h : ∀ a b, (a, b) ∈ E → (b, a) ∈ F) {a b : α} (hr : Reach (succOf E) a b) : Reach (succOf F) b a := by
  induction hr with
  | refl => exact .refl _
  | step e _ ih => exact ih.trans (.edge (mem_succOf.2 (h _ _ (mem_succOf.1 e))))

theorem mutual_turned {E F : List (α × α)} (h : ∀ a b, (a, b) ∈ E ↔ (b, a) ∈ F) (a b : α) : Mutual E a b ↔ Mutual F a b := by
  have h1 : ∀ a b, (a, b) ∈ E → (b, a) ∈ F := fun a b => (h a b).1
  have h2 : ∀ a b, (a, b) ∈ F → (b, a) ∈ E := fun a b => (h b a).2
  exact ⟨fun ⟨x, y⟩ => ⟨reach_turned h1 y, reach_turned h1 x⟩, fun ⟨x, y⟩ => ⟨reach_turned h2 y, reach_turned h2 x⟩⟩

/-- Where each pair stands beside its twin, reach is mutual. -/
theorem mutual_both {E : List (α × α)} (h : ∀ a b, (a, b) ∈ E → (b, a) ∈ E) (a b : α) : Mutual E a b ↔ Reach (succOf E) a b :=
  ⟨fun h => h.1, fun hr => ⟨hr, reach_turned h hr⟩⟩

end
end Go.Proofs.Qxb6626223a.Graph
