/-
  ROWS OF STRINGS THAT A CALL OWNS: read, written, appended to.
-/
import Derived.Test.Qxb6626223aFind
namespace Go.Proofs.Qxb6626223a.RowsS
open Go.RowKit
open Go.Proofs.Qxb6626223a.Frame Go.Proofs.Qxb6626223a.Order Go.Proofs.Qxb6626223a.Find
set_option linter.unusedVariables false
set_option linter.unusedSimpArgs false

/-- v owns a row of strings. -/
def OwnS (w : World) (v : Value) (l : List ByteArray) : Prop := w.ownsRow 0 9 1 v l.length (strs l)

theorem strs_len (l : List ByteArray) : (strs l).length = l.length := by simp [strs]

/-- A cell of an owned row is written. -/
theorem own_set {w : World} {e : TypeId} {g n cap : Nat} {xs : List Value} (h : w.ownsRow 0 e 1 (.slice (some ⟨g, 0, Option.none⟩) n cap) n xs) {i : Nat} (hi : i < n) (u : Value) :
    (w.setCell ⟨g, i, Option.none⟩ u).ownsRow 0 e 1 (.slice (some ⟨g, 0, Option.none⟩) n cap) n (xs.set i u) := by
  obtain ⟨h1, h2⟩ := h
  refine ⟨by simpa using h1, .inr ?_⟩
  rcases h2 with ⟨h0, _⟩ | ⟨g', cap', cur, he, hb, hg, hnc, hcm, hsz, htk⟩
  · simp at h0
  · simp only [Value.slice.injEq, Option.some.injEq, Addr.mk.injEq, and_true, true_and] at he
    obtain ⟨rfl, rfl⟩ := he
    refine ⟨g, cap, _, rfl, hb, block_set hg i u, hnc, hcm, by simpa using hsz, ?_⟩
    rw [← htk, Nat.mul_one, Array.toList_setIfInBounds, List.take_set]

/-- A cell of an owned row, read; it is not frozen. -/
theorem own_cell {w : World} {e : TypeId} {g n cap : Nat} {xs : List Value} (h : w.ownsRow 0 e 1 (.slice (some ⟨g, 0, Option.none⟩) n cap) n xs) {i : Nat} {x : Value} (hx : xs[i]? = some x) :
    w.cell? ⟨g, i, Option.none⟩ = some x ∧ w.frozen? ⟨g, i, Option.none⟩ = false := by
  obtain ⟨h1, h2⟩ := h
  have hi := (List.getElem?_eq_some_iff.1 hx).1
  rcases h2 with ⟨h0, _⟩ | ⟨g', cap', cur, he, hb, hg, hnc, hcm, hsz, htk⟩
  · simp at h0
  · simp only [Value.slice.injEq, Option.some.injEq, Addr.mk.injEq, and_true, true_and] at he
    obtain ⟨rfl, rfl⟩ := he
    refine ⟨?_, free_of hg _⟩
    rw [cell_of hg]
    rw [← htk, List.getElem?_take_of_lt (by omega)] at hx
    simpa using hx

end Go.Proofs.Qxb6626223a.RowsS
