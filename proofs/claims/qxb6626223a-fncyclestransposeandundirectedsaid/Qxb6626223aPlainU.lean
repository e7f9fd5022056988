/-
  THE UNION-FIND'S PLAIN LAW. No Go in sight.
-/
import Derived.Test.Qxb6626223aPlainG
namespace Go.Proofs.Qxb6626223a.PlainU
open Go.Proofs.Qxb6626223a.Tarjan Go.Proofs.Qxb6626223a.Canon Go.Proofs.Qxb6626223a.Graph Go.Proofs.Qxb6626223a.PlainG
set_option linter.unusedVariables false
set_option linter.unusedSimpArgs false
set_option linter.unusedSectionVars false

section
variable {α : Type} [DecidableEq α]

/-- Each pair beside its twin. -/
def both (E : List (α × α)) : List (α × α) := E.flatMap fun p => [p, (p.2, p.1)]
theorem mem_both {E : List (α × α)} {a b : α} : (a, b) ∈ both E ↔ (a, b) ∈ E ∨ (b, a) ∈ E := by
  unfold both
  rw [List.mem_flatMap]
  constructor
  · rintro ⟨⟨c, d⟩, h, k⟩
    simp at k
    rcases k with ⟨rfl, rfl⟩ | ⟨rfl, rfl⟩
    · exact .inl h
    · exact .inr h
  · rintro (h | h)
    · exact ⟨_, h, by simp⟩
    · exact ⟨_, h, by simp⟩
theorem both_symm {E : List (α × α)} (a b : α) (h : (a, b) ∈ both E) : (b, a) ∈ both E := by
  rw [mem_both] at *
  exact h.symm
theorem both_reach_symm {E : List (α × α)} {a b : α} (h : Reach (succOf (both E)) a b) : Reach (succOf (both E)) b a := reach_turned both_symm h
theorem both_mono {E F : List (α × α)} (h : ∀ p ∈ E, p ∈ F) {a b : α} (hr : Reach (succOf (both E)) a b) : Reach (succOf (both F)) a b :=
  reach_mono (fun p hp => by
    obtain ⟨c, d⟩ := p
    rw [mem_both] at *
    exact hp.imp (h _) (h _)) hr

structure UF (A : List α) (E : List (α × α)) (ps : List Nat) (rt : Nat → Nat) : Prop where
  len : ps.length = A.length
  le : ∀ (x q : Nat), ps[x]? = some q → q ≤ x ∧ rt q = rt x ∧ (q = x → rt x = x) ∧ rt x ≤ x
  edge : ∀ p ∈ E, ∀ (x y : Nat), A[x]? = some p.1 → A[y]? = some p.2 → rt x = rt y
  con : ∀ (x : Nat) a, A[x]? = some a → ∃ b, A[rt x]? = some b ∧ Reach (succOf (both E)) a b

theorem UF.start (A : List α) : UF A [] (List.range A.length) id := by
  refine ⟨by simp, fun x q h => ?_, by simp, fun x a h => ⟨a, h, .refl _⟩⟩
  have hx : x < A.length := by have := (List.getElem?_eq_some_iff.1 h).1; simpa using this
  rw [List.getElem?_range hx] at h
  cases h
  simp

theorem UF.same {A : List α} {E : List (α × α)} {ps : List Nat} {rt : Nat → Nat} (h : UF A E ps rt) (hA : A.Nodup) {a b : α} {x y : Nat} (hx : A[x]? = some a) (hy : A[y]? = some b) (e : rt x = rt y) : UF A (E ++ [(a, b)]) ps rt := by
  refine ⟨h.len, h.le, fun p hp x' y' hx' hy' => ?_, fun z c hc => ?_⟩
  · rcases List.mem_append.1 hp with hp | hp
    · exact h.edge p hp x' y' hx' hy'
    · rw [List.mem_singleton.1 hp] at hx' hy'
      have e1 : x' = x := (List.getElem?_inj (List.getElem?_eq_some_iff.1 hx').1 hA).1 (hx'.trans hx.symm)
      have e2 : y' = y := (List.getElem?_inj (List.getElem?_eq_some_iff.1 hy').1 hA).1 (hy'.trans hy.symm)
      rw [e1, e2]; exact e
  · obtain ⟨d, h1, h2⟩ := h.con z c hc
    exact ⟨d, h1, both_mono (fun p hp => by simp [hp]) h2⟩

theorem UF.join {A : List α} {E : List (α × α)} {ps : List Nat} {rt : Nat → Nat} (h : UF A E ps rt) (hA : A.Nodup) {a b : α} {x y r s : Nat} (hx : A[x]? = some a) (hy : A[y]? = some b)
    (hs : s < r) (hr : ps[r]? = some r) (hs' : ps[s]? = some s) (e : (rt x = s ∧ rt y = r) ∨ (rt x = r ∧ rt y = s)) : UF A (E ++ [(a, b)]) (ps.set r s) (fun z => if rt z = r then s else rt z) := by
  have rs : rt s = s := (h.le s s hs').2.2.1 rfl
  have rr : rt r = r := (h.le r r hr).2.2.1 rfl
  have hrl := (List.getElem?_eq_some_iff.1 hr).1
  have mono : ∀ p ∈ E, p ∈ E ++ [(a, b)] := fun p hp => by simp [hp]
  have ab : Reach (succOf (both (E ++ [(a, b)]))) a b := .edge (mem_succOf.2 (mem_both.2 (.inl (by simp))))
  refine ⟨by rw [List.length_set]; exact h.len, fun z q hq => ?_, fun p hp x' y' hx' hy' => ?_, fun z c hc => ?_⟩
  · by_cases ez : z = r
    · subst ez
      rw [List.getElem?_set_self hrl] at hq
      cases hq
      simp only [rs, rr, if_true]
      rw [if_neg (by omega)]
      exact ⟨by omega, rfl, fun e => e, by omega⟩
    · rw [List.getElem?_set_ne (fun e => ez e.symm)] at hq
      obtain ⟨h1, h2, h3, h4⟩ := h.le z q hq
      refine ⟨h1, by simp only [h2], fun e => ?_, ?_⟩
      · have := h3 e
        show (if rt z = r then s else rt z) = z
        rw [if_neg (by omega)]; exact this
      · show (if rt z = r then s else rt z) ≤ z
        split <;> omega
  · rcases List.mem_append.1 hp with hp | hp
    · show (if rt x' = r then s else rt x') = if rt y' = r then s else rt y'
      rw [h.edge p hp x' y' hx' hy']
    · rw [List.mem_singleton.1 hp] at hx' hy'
      have e1 : x' = x := (List.getElem?_inj (List.getElem?_eq_some_iff.1 hx').1 hA).1 (hx'.trans hx.symm)
      have e2 : y' = y := (List.getElem?_inj (List.getElem?_eq_some_iff.1 hy').1 hA).1 (hy'.trans hy.symm)
      subst e1 e2
      show (if rt x' = r then s else rt x') = if rt y' = r then s else rt y'
      rcases e with ⟨e1, e2⟩ | ⟨e1, e2⟩ <;> rw [e1, e2] <;> simp <;> omega
  · obtain ⟨d, h1, h2⟩ := h.con z c hc
    have h2' := both_mono mono h2
    show ∃ b', A[if rt z = r then s else rt z]? = some b' ∧ _
    by_cases ez : rt z = r
    · rw [if_pos ez]
      rw [ez] at h1
      obtain ⟨da, k1, k2⟩ := h.con x a hx
      obtain ⟨db, k3, k4⟩ := h.con y b hy
      have k2' := both_mono mono k2
      have k4' := both_mono mono k4
      rcases e with ⟨e1, e2⟩ | ⟨e1, e2⟩
      · rw [e1] at k1
        rw [e2, h1] at k3
        cases k3
        exact ⟨da, k1, h2'.trans ((both_reach_symm k4').trans ((both_reach_symm ab).trans k2'))⟩
      · rw [e2] at k3
        rw [e1, h1] at k1
        cases k1
        exact ⟨db, k3, h2'.trans ((both_reach_symm k2').trans (ab.trans k4'))⟩
    · rw [if_neg ez]
      exact ⟨d, h1, h2'⟩

theorem UF.rel {A : List α} {E : List (α × α)} {ps : List Nat} {rt : Nat → Nat} (h : UF A E ps rt) (hA : A.Nodup) (hE : ∀ p ∈ E, p.1 ∈ A ∧ p.2 ∈ A) {a b : α} {x y : Nat} (hx : A[x]? = some a) (hy : A[y]? = some b) :
    rt x = rt y ↔ Reach (succOf (both E)) a b := by
  constructor
  · intro e
    obtain ⟨d, h1, h2⟩ := h.con x a hx
    obtain ⟨d', h1', h2'⟩ := h.con y b hy
    rw [← e, h1] at h1'
    cases h1'
    exact h2.trans (both_reach_symm h2')
  · intro hr
    have key : ∀ x, A[x]? = some a → rt x = rt y := by
      clear hx
      induction hr with
      | refl c =>
        intro x' hx'
        rw [(List.getElem?_inj (List.getElem?_eq_some_iff.1 hx').1 hA).1 (hx'.trans hy.symm)]
      | @step c d e' he hr ih =>
        intro x' hx'
        have hm := mem_both.1 (mem_succOf.1 he)
        have hd : d ∈ A := hm.elim (fun h => (hE _ h).2) (fun h => (hE _ h).1)
        obtain ⟨k, hk⟩ := List.getElem?_of_mem hd
        have e1 : rt x' = rt k := hm.elim (fun hm => h.edge _ hm x' k hx' hk) (fun hm => (h.edge _ hm k x' hk hx').symm)
        rw [e1]
        exact ih hy k hk
    exact key x hx

end
end Go.Proofs.Qxb6626223a.PlainU
