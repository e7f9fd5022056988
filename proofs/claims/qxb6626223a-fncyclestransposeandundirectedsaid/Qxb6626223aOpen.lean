/-
  THE SLICE OF CONFLICTS THAT CAME IN, OPENED.
-/
import Derived.Test.Qxb6626223aAgents
import Derived.Deep.Slices
import Derived.Deep.Strs
namespace Go.Proofs.Qxb6626223a.Open
open Go.RowKit
open Go.Proofs.Qxb6626223a.Agents
set_option linter.unusedVariables false
set_option linter.unusedSimpArgs false

instance : Inhabited Q4 := ⟨⟨ByteArray.empty, ByteArray.empty, ByteArray.empty, ByteArray.empty⟩⟩

theorem cells25 : Try.prog.cellsOf 25 = 4 := by kernel_rfl
theorem cells9 : Try.prog.cellsOf 9 = 1 := by kernel_rfl
theorem fields25 : ∃ f0 f1 f2 f3 : Field, Try.prog.underlying 25 = some (.struct #[f0, f1, f2, f3]) ∧ f0.type = 9 ∧ f0.offset = 0 ∧ f1.type = 9 ∧ f1.offset = 1 ∧ f2.type = 9 ∧ f2.offset = 2 ∧ f3.type = 9 ∧ f3.offset = 3 := by
  refine ⟨_, _, _, _, Try.underlying25, rfl, rfl, rfl, rfl, rfl, rfl, rfl, rfl⟩

theorem open_held {H : Type} {enc : TypeId × Value → H} {W : World} {fuel len cap : Nat} {ao : Option Addr} {x : DataW H × List MemPlace}
    (h : DataW.trod enc Try.prog W 0 (fun _ => true) true fuel 22 [.slice ao len cap] = some x) : ∃ cs, cs.length = len ∧ Held W ao cs ∧ len ≤ maxLen := by
  rcases Deep.open_slice Try.underlying22 h with ⟨hcs, _⟩ | ⟨a, l, c, m, n, D, Pl, hcs, _, hl, hm, hmm, _, hx⟩
  · simp at hcs
    obtain ⟨rfl, rfl, rfl⟩ := hcs
    exact ⟨[], rfl, fun i c hc => by simp at hc, Nat.zero_le _⟩
  · simp at hcs
    obtain ⟨rfl, rfl, rfl⟩ := hcs
    simp only [if_true] at hmm
    subst hmm
    obtain ⟨f0, f1, f2, f3, hu, t0, o0, t1, o1, t2, o2, t3, o3⟩ := fields25
    have each : ∀ i, i < len → ∃ q : Q4, W.cell? (a.add (i * 4)) = some (.string q.e) ∧ W.cell? (a.add (i * 4 + 1)) = some (.string q.l) ∧ W.cell? (a.add (i * 4 + 2)) = some (.string q.n) ∧ W.cell? (a.add (i * 4 + 3)) = some (.string q.k) := by
      intro i hi
      obtain ⟨cs', h1, h2⟩ := hx i (by omega)
      rw [cells25] at h1
      obtain ⟨_, hlen, hcell⟩ := World.cells?_some h1
      obtain ⟨ys, k, _, _, hl', hylen, hf⟩ := DataW.trod_struct hu h2
      obtain ⟨y0, y1, y2, y3, rfl⟩ : ∃ y0 y1 y2 y3, ys = [y0, y1, y2, y3] := by
        match ys, hylen with
        | [y0, y1, y2, y3], _ => exact ⟨y0, y1, y2, y3, rfl⟩
      have g0 := hf 0 f0 rfl
      have g1 := hf 1 f1 rfl
      have g2 := hf 2 f2 rfl
      have g3 := hf 3 f3 rfl
      match cs', hlen with
      | [v0, v1, v2, v3], _ =>
        rw [t0, o0, cells9] at g0
        rw [t1, o1, cells9] at g1
        rw [t2, o2, cells9] at g2
        rw [t3, o3, cells9] at g3
        obtain ⟨z0, e0, _⟩ := DataW.trod_string Try.underlying9 g0
        obtain ⟨z1, e1, _⟩ := DataW.trod_string Try.underlying9 g1
        obtain ⟨z2, e2, _⟩ := DataW.trod_string Try.underlying9 g2
        obtain ⟨z3, e3, _⟩ := DataW.trod_string Try.underlying9 g3
        simp at e0 e1 e2 e3
        subst e0 e1 e2 e3
        have c0 := hcell 0 (by omega)
        have c1 := hcell 1 (by omega)
        have c2 := hcell 2 (by omega)
        have c3 := hcell 3 (by omega)
        rw [Deep.add_add] at c0 c1 c2 c3
        exact ⟨⟨z0, z1, z2, z3⟩, by simpa using c0, by simpa using c1, by simpa using c2, by simpa using c3⟩
    obtain ⟨q, hq⟩ := Deep.choose_lt each
    refine ⟨(List.range len).map q, by simp, fun i c hc => ?_, by omega⟩
    have hi : i < len := by
      have := (List.getElem?_eq_some_iff.1 hc).1
      simpa using this
    simp only [List.getElem?_map, List.getElem?_range hi, Option.map_some, Option.some.injEq] at hc
    subst hc
    obtain ⟨e0, e1, e2, e3⟩ := hq i hi
    obtain ⟨z0, _, _⟩ := hq 0 (by omega)
    obtain ⟨b, off, spot⟩ := a
    have hspot : spot = Option.none := by simpa [Addr.add] using World.cell?_spot z0
    subst hspot
    rw [Addr.add_lit] at e0 e1 e2 e3
    exact ⟨b, off, rfl, e0, by rw [Nat.add_assoc]; exact e1, by rw [Nat.add_assoc]; exact e2, by rw [Nat.add_assoc]; exact e3⟩

end Go.Proofs.Qxb6626223a.Open
