/-
  THE SLICE OF CHECKS THAT CAME IN, OPENED.
-/
import Derived.Test.Qxb6625896aPlain2
import Derived.Deep.Slices
import Derived.Deep.Strs
namespace Go.Proofs.Qxb6625896a.Open
open Go.RowKit
open Go.Proofs.Qxb6625896a.Plain Go.Proofs.Qxb6625896a.Build
set_option linter.unusedVariables false
set_option linter.unusedSimpArgs false

theorem cells38 : Try.prog.cellsOf 38 = 3 := by kernel_rfl
theorem fields38 : ∃ f0 f1 f2 : Field, Try.prog.underlying 38 = some (.struct #[f0, f1, f2]) ∧ f0.type = 23 ∧ f0.offset = 0 ∧ f1.type = 4 ∧ f1.offset = 1 ∧ f2.type = 4 ∧ f2.offset = 2 := by
  refine ⟨_, _, _, Try.underlying38, rfl, rfl, rfl, rfl, rfl, rfl⟩
theorem cells23 : Try.prog.cellsOf 23 = 1 := by kernel_rfl
theorem cells4 : Try.prog.cellsOf 4 = 1 := by kernel_rfl

theorem open_held {H : Type} {enc : TypeId × Value → H} {W : World} {fuel len cap : Nat} {ao : Option Addr} {x : DataW H × List MemPlace}
    (h : DataW.trod enc Try.prog W 0 (fun _ => true) true fuel 22 [.slice ao len cap] = some x) : ∃ cs, cs.length = len ∧ Held W ao cs ∧ len ≤ maxLen := by
  rcases Deep.open_slice Try.underlying22 h with ⟨hcs, _⟩ | ⟨a, l, c, m, n, D, Pl, hcs, _, hl, hm, hmm, _, hx⟩
  · simp at hcs
    obtain ⟨rfl, rfl, rfl⟩ := hcs
    exact ⟨[], rfl, fun i c hc => by simp at hc, Nat.zero_le _⟩
  · simp at hcs
    obtain ⟨rfl, rfl, rfl⟩ := hcs
    simp only [if_true] at hmm
    subst hmm
    obtain ⟨f0, f1, f2, hu, t0, o0, t1, o1, t2, o2⟩ := fields38
    have each : ∀ i, i < len → ∃ q : Int × Bool × Bool, W.cell? (a.add (i * 3)) = some (.int .u64 q.1) ∧ W.cell? (a.add (i * 3 + 1)) = some (.bool q.2.1) ∧ W.cell? (a.add (i * 3 + 2)) = some (.bool q.2.2) := by
      intro i hi
      obtain ⟨cs', h1, h2⟩ := hx i (by omega)
      rw [cells38] at h1
      obtain ⟨_, hlen, hcell⟩ := World.cells?_some h1
      obtain ⟨y0, y1, y2, k, _, _, g0, g1, g2⟩ := Deep.trod_struct3 hu h2
      match cs', hlen with
      | [v0, v1, v2], _ =>
        rw [t0, o0, cells23] at g0
        rw [t1, o1, cells4] at g1
        rw [t2, o2, cells4] at g2
        obtain ⟨z, e0, _, _⟩ := DataW.trod_int Try.underlying23 g0
        obtain ⟨q, e1, _⟩ := DataW.trod_bool Try.underlying4 g1
        obtain ⟨l, e2, _⟩ := DataW.trod_bool Try.underlying4 g2
        simp at e0 e1 e2
        subst e0 e1 e2
        have c0 := hcell 0 (by omega)
        have c1 := hcell 1 (by omega)
        have c2 := hcell 2 (by omega)
        rw [Deep.add_add] at c0 c1 c2
        exact ⟨(z, q, l), by simpa using c0, by simpa using c1, by simpa using c2⟩
    obtain ⟨q, hq⟩ := Deep.choose_lt each
    refine ⟨(List.range len).map fun i => ⟨(q i).1, (q i).2.1, (q i).2.2⟩, by simp, fun i c hc => ?_, by omega⟩
    have hi : i < len := by
      have := (List.getElem?_eq_some_iff.1 hc).1
      simpa using this
    simp only [List.getElem?_map, List.getElem?_range hi, Option.map_some, Option.some.injEq] at hc
    subst hc
    obtain ⟨e0, e1, e2⟩ := hq i hi
    obtain ⟨z0, _, _⟩ := hq 0 (by omega)
    obtain ⟨b, off, spot⟩ := a
    have hspot : spot = Option.none := by simpa [Addr.add] using World.cell?_spot z0
    subst hspot
    rw [Addr.add_lit] at e0 e1 e2
    exact ⟨b, off, rfl, e0, by rw [Nat.add_assoc]; exact e1, by rw [Nat.add_assoc]; exact e2⟩

theorem open_held2 {H : Type} {enc : TypeId × Value → H} {W : World} {fuel len cap : Nat} {ao : Option Addr} {x : DataW H × List MemPlace}
    (h : DataW.trod enc Try.prog W 0 (fun _ => true) true fuel 22 [.slice ao len cap] = some x) : ∃ cs, cs.length = len ∧ Held W ao cs ∧ len ≤ cap ∧ cap ≤ maxLen := by
  rcases Deep.open_slice Try.underlying22 h with ⟨hcs, _⟩ | ⟨a, l, c, m, n, D, Pl, hcs, _, hl, hm, hmm, _, hx⟩
  · simp at hcs
    obtain ⟨rfl, rfl, rfl⟩ := hcs
    exact ⟨[], rfl, fun i c hc => by simp at hc, Nat.le_refl _, Nat.zero_le _⟩
  · simp at hcs
    obtain ⟨rfl, rfl, rfl⟩ := hcs
    simp only [if_true] at hmm
    subst hmm
    obtain ⟨f0, f1, f2, hu, t0, o0, t1, o1, t2, o2⟩ := fields38
    have each : ∀ i, i < len → ∃ q : Int × Bool × Bool, W.cell? (a.add (i * 3)) = some (.int .u64 q.1) ∧ W.cell? (a.add (i * 3 + 1)) = some (.bool q.2.1) ∧ W.cell? (a.add (i * 3 + 2)) = some (.bool q.2.2) := by
      intro i hi
      obtain ⟨cs', h1, h2⟩ := hx i (by omega)
      rw [cells38] at h1
      obtain ⟨_, hlen, hcell⟩ := World.cells?_some h1
      obtain ⟨y0, y1, y2, k, _, _, g0, g1, g2⟩ := Deep.trod_struct3 hu h2
      match cs', hlen with
      | [v0, v1, v2], _ =>
        rw [t0, o0, cells23] at g0
        rw [t1, o1, cells4] at g1
        rw [t2, o2, cells4] at g2
        obtain ⟨z, e0, _, _⟩ := DataW.trod_int Try.underlying23 g0
        obtain ⟨q, e1, _⟩ := DataW.trod_bool Try.underlying4 g1
        obtain ⟨l, e2, _⟩ := DataW.trod_bool Try.underlying4 g2
        simp at e0 e1 e2
        subst e0 e1 e2
        have c0 := hcell 0 (by omega)
        have c1 := hcell 1 (by omega)
        have c2 := hcell 2 (by omega)
        rw [Deep.add_add] at c0 c1 c2
        exact ⟨(z, q, l), by simpa using c0, by simpa using c1, by simpa using c2⟩
    obtain ⟨q, hq⟩ := Deep.choose_lt each
    refine ⟨(List.range len).map fun i => ⟨(q i).1, (q i).2.1, (q i).2.2⟩, by simp, fun i c hc => ?_, hl, hm⟩
    have hi : i < len := by
      have := (List.getElem?_eq_some_iff.1 hc).1
      simpa using this
    simp only [List.getElem?_map, List.getElem?_range hi, Option.map_some, Option.some.injEq] at hc
    subst hc
    obtain ⟨e0, e1, e2⟩ := hq i hi
    obtain ⟨z0, _, _⟩ := hq 0 (by omega)
    obtain ⟨b, off, spot⟩ := a
    have hspot : spot = Option.none := by simpa [Addr.add] using World.cell?_spot z0
    subst hspot
    rw [Addr.add_lit] at e0 e1 e2
    exact ⟨b, off, rfl, e0, by rw [Nat.add_assoc]; exact e1, by rw [Nat.add_assoc]; exact e2⟩

end Go.Proofs.Qxb6625896a.Open
