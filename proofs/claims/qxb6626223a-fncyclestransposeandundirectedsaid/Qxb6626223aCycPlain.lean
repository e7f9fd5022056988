/-
  WHAT THE SEARCH HAS FOUND, WHEN ALL ARE VISITED: the groups of mutual reach. No Go in sight.
-/
import Derived.Test.Qxb6626223aVisit
namespace Go.Proofs.Qxb6626223a.CycPlain
open Go.RowKit
open Go.Proofs.Qxb6626223a.Tarjan (upd upd_same upd_other St Inv Ext Post)
open Go.Proofs.Qxb6626223a.Canon Go.Proofs.Qxb6626223a.Graph Go.Proofs.Qxb6626223a.PlainG
open Go.Proofs.Qxb6626223a.Order Go.Proofs.Qxb6626223a.Index Go.Proofs.Qxb6626223a.Rep Go.Proofs.Qxb6626223a.LibC Go.Proofs.Qxb6626223a.Visit
set_option linter.unusedVariables false
set_option linter.unusedSimpArgs false

theorem exists_nodup {α : Type} : ∀ l : List α, ∃ U : List α, U.Nodup ∧ (∀ x, x ∈ U ↔ x ∈ l) ∧ U.length ≤ l.length
  | [] => ⟨[], by simp, by simp, Nat.le_refl _⟩
  | a :: r => by
    obtain ⟨U, h1, h2, h3⟩ := exists_nodup r
    by_cases ha : a ∈ r
    · exact ⟨U, h1, fun x => by rw [h2, List.mem_cons]; exact ⟨.inr, fun h => h.elim (fun e => e ▸ ha) id⟩, by simp; omega⟩
    · refine ⟨a :: U, ?_, fun x => by rw [List.mem_cons, List.mem_cons, h2], by simp; exact h3⟩
      rw [List.nodup_cons, h2]
      exact ⟨ha, h1⟩

def S0 : St ByteArray := ⟨fun _ => Option.none, fun _ => 0, [], [], 0⟩
theorem inv0 (succ : ByteArray → List ByteArray) : Inv succ S0 (fun _ => False) := by
  refine ⟨fun v n h => (by simp [S0] at h), fun u v n h => (by simp [S0] at h), (by simp [S0]), fun v hv => (by simp [S0] at hv), fun g h => False.elim h, fun v hv => absurd rfl hv, fun v hv => absurd rfl hv, fun x hx => (by simp [S0] at hx), fun y hy => (by simp [S0] at hy), fun c hc => (by simp [S0] at hc), fun v => ?_, (by simp [S0])⟩
  constructor
  · rintro ⟨h, _⟩; exact absurd rfl h
  · rintro ⟨c, hc, _⟩; simp [S0] at hc
theorem unv0 (U : List ByteArray) : unv U S0.idx = U.length := by
  simp [unv, S0]

theorem stack_empty {succ : ByteArray → List ByteArray} {S : St ByteArray} (h : Inv succ S (fun _ => False)) : S.stack = [] := by
  cases hs : S.stack with
  | nil => rfl
  | cons a r =>
    obtain ⟨g, hg, _⟩ := h.down a (by rw [hs]; simp)
    exact hg.elim

theorem comp_len {succ : ByteArray → List ByteArray} {S : St ByteArray} {G : ByteArray → Prop} (h : Inv succ S G) {c : List ByteArray} (hc : c ∈ S.comps) : c.length ≤ S.cnt := by
  have vis : ∀ x ∈ c, ∃ n, S.idx x = some n := fun x hx => by
    have := ((h.cover x).2 ⟨c, hc, hx⟩).1
    cases e : S.idx x with
    | none => exact absurd e this
    | some n => exact ⟨n, rfl⟩
  have hn : (c.map fun v => (S.idx v).getD 0).Nodup := nodup_map (h.comp c hc).2.1 fun x hx y hy e => by
    obtain ⟨n, hn⟩ := vis x hx
    obtain ⟨m, hm⟩ := vis y hy
    rw [hn, hm] at e
    simp only [Option.getD_some] at e
    subst e
    exact h.inj x y n hn hm
  have := nodup_sub_len hn (U := List.range S.cnt) fun v hv => by
    obtain ⟨x, hx, rfl⟩ := List.mem_map.1 hv
    obtain ⟨n, hn⟩ := vis x hx
    rw [hn, List.mem_range]
    exact h.lt x n hn
  simpa using this

/-- The end. -/
theorem groups_end {E : List (ByteArray × ByteArray)} {S : St ByteArray} (h : Inv (succOf E) S (fun _ => False)) (hk : ∀ a, succOf E a ≠ [] → S.idx a ≠ Option.none) {L L' : List (List ByteArray)} (hL : GrpOf S.comps L) (hp : L'.Perm L) (hs : L'.Pairwise fun a b => ¬ cmpL b a < 0) : IsGroups slt (Mutual E) L' := by
  have hst := stack_empty h
  have each : ∀ l ∈ L', l.Pairwise slt ∧ 1 < l.length ∧ ∃ c ∈ S.comps, l.Perm c := fun l hl => hL.each l (hp.mem_iff.1 hl)
  have disj : L'.Pairwise fun l l' => ∀ v ∈ l, v ∉ l' := (hp.pairwise_iff (fun {x y} h v hv hv' => h v hv' hv)).2 hL.disj
  refine ⟨fun g hg => (each g hg).1, ?_, fun g hg => (each g hg).2.1, fun g hg a ha z => ?_, fun a z hne hm => ?_⟩
  · refine (hs.and disj).imp_of_mem fun {l l'} hl hl' ⟨h1, h2⟩ => ?_
    obtain ⟨_, n1, _⟩ := each l hl
    obtain ⟨_, n2, _⟩ := each l' hl'
    match l, l', n1, n2, h1, h2 with
    | x :: r, y :: s, _, _, h1, h2 =>
      show slt x y
      rcases tri x y with h | h | rfl
      · exact h
      · exact absurd (by rw [cons_lt h]; decide) h1
      · exact absurd (by simp) (h2 x (by simp))
  · obtain ⟨_, _, c, hc, hpc⟩ := each g hg
    rw [hpc.mem_iff]
    exact (h.comp c hc).2.2 a (hpc.mem_iff.1 ha) z
  · have hsa : succOf E a ≠ [] := by
      cases hm.1 with
      | refl => exact absurd rfl hne
      | step e _ => exact fun e' => by rw [e'] at e; simp at e
    obtain ⟨c, hc, hac⟩ := (h.cover a).1 ⟨hk a hsa, by rw [hst]; simp⟩
    have hzc : z ∈ c := ((h.comp c hc).2.2 a hac z).2 hm
    have hlen : 1 < c.length := by
      match c, hac, hzc with
      | [], hac, _ => simp at hac
      | [x], hac, hzc => simp at hac hzc; exact absurd (hac.trans hzc.symm) hne
      | _ :: _ :: _, _, _ => simp
    obtain ⟨l, hl, hpl⟩ := hL.all c hc hlen
    exact ⟨l, hp.mem_iff.2 hl, hpl.mem_iff.2 hac⟩

end Go.Proofs.Qxb6626223a.CycPlain
