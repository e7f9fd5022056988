/-
  LAW TWO: the lists.
-/
import Derived.Test.Qxb6625896aIdx
namespace Go.Proofs.Qxb6625896a.Two
open Go.RowKit
open Go.Proofs.Qxb6625896a.Plain Go.Proofs.Qxb6625896a.Frame Go.Proofs.Qxb6625896a.Parts Go.Proofs.Qxb6625896a.Heap Go.Proofs.Qxb6625896a.Plain2 Go.Proofs.Qxb6625896a.Idx
set_option linter.unusedVariables false
set_option linter.unusedSimpArgs false

theorem ckKeep_map {α β : Type} (f : α → β) (inc : Int) : ∀ (cs : List Chk) (l : List α) (L : Nat), ckKeep inc L cs (l.map f) = (ckKeep inc L cs l).map f
  | [], l, L => by cases l <;> rfl
  | c :: r, [], L => rfl
  | c :: r, b :: bs, L => by
    rw [List.map_cons, ckKeep_cons, ckKeep_cons]
    split
    · exact ckKeep_map f inc r bs (L + 1)
    · rw [List.map_cons, ckKeep_map f inc r bs L]

/-- The places that are kept. -/
def ixOf (inc : Int) (L : Nat) (cs : List Chk) : List Nat := ckKeep inc L cs (List.range cs.length)

theorem keep_ix (inc : Int) (L : Nat) {cs : List Chk} {bs : List Nat} (h : bs.length = cs.length) : ckKeep inc L cs bs = (ixOf inc L cs).map (fun i => bs.getD i 0) := by
  unfold ixOf
  rw [← ckKeep_map]
  congr 1
  rw [← h]
  apply List.ext_getElem
  · simp
  · intro i h1 h2
    simp [List.getD, h1]

theorem ix_lt {inc : Int} {L : Nat} {cs : List Chk} {p i : Nat} (h : (ixOf inc L cs)[p]? = some i) : i < cs.length := by
  have := (keep_sub inc cs (List.range cs.length) L).subset (List.mem_of_getElem? h)
  simpa using this

theorem ix_inc {inc : Int} {L : Nat} {cs : List Chk} {p i j : Nat} (h : (ixOf inc L cs)[p]? = some i) (h' : (ixOf inc L cs)[p + 1]? = some j) : i < j := by
  have hp : (ixOf inc L cs).Pairwise (· < ·) := (List.pairwise_lt_range (n := cs.length)).sublist (keep_sub inc cs (List.range cs.length) L)
  obtain ⟨l1, e1⟩ := List.getElem?_eq_some_iff.1 h
  obtain ⟨l2, e2⟩ := List.getElem?_eq_some_iff.1 h'
  rw [← e1, ← e2]
  exact List.pairwise_iff_getElem.1 hp p (p + 1) l1 l2 (by omega)

theorem places (inc : Int) (L : Nat) {cs : List Chk} {bs : List Nat} (h : bs.length = cs.length) : Places bs (ckKeep inc L cs bs) (ixOf inc L cs) := by
  refine ⟨by rw [keep_ix inc L h]; simp, fun p i hi => ?_, fun p i j hi hj => ix_inc hi hj⟩
  have hlt := ix_lt hi
  refine ⟨?_, by omega⟩
  rw [keep_ix inc L h, List.getElem?_map, hi]
  simp [List.getD, List.getElem?_eq_getElem (show i < bs.length by omega)]

theorem ix_cut (inc : Int) (L : Nat) (cs : List Chk) (cut : Nat) (h : cut ≤ cs.length) :
    ixOf inc L cs = ixOf inc L (cs.take cut) ++ (ixOf inc (L + ckN inc L (cs.take cut)) (cs.drop cut)).map (fun i => i + cut) := by
  have hr : List.range cs.length = List.range (cs.take cut).length ++ (List.range (cs.drop cut).length).map (fun i => i + cut) := by
    apply List.ext_getElem
    · simp; omega
    · intro i h1 h2
      by_cases hi : i < cut
      · rw [List.getElem_append_left (by simp; omega)]
        simp
      · rw [List.getElem_append_right (by simp; omega)]
        simp
        omega
  have hc : ixOf inc L cs = ckKeep inc L (cs.take cut ++ cs.drop cut) (List.range (cs.take cut).length ++ (List.range (cs.drop cut).length).map (fun i => i + cut)) := by
    rw [List.take_append_drop, ← hr]; rfl
  rw [hc, ckKeep_append _ _ _ _ _ _ (by simp), ckKeep_map]
  rfl

theorem n_cut (inc : Int) (L : Nat) (cs : List Chk) (cut : Nat) : ckN inc L cs = ckN inc L (cs.take cut) + ckN inc (L + ckN inc L (cs.take cut)) (cs.drop cut) := by
  rw [← ckN_append, List.take_append_drop]
theorem mark_cut (inc : Int) (L : Nat) (cs : List Chk) (cut : Nat) : ckMark inc L cs = ckMark inc L (cs.take cut) ++ ckMark inc (L + ckN inc L (cs.take cut)) (cs.drop cut) := by
  rw [← ckMark_append, List.take_append_drop]

theorem ix_len (inc : Int) (L : Nat) (cs : List Chk) : (ixOf inc L cs).length = cs.length - ckN inc L cs := by
  unfold ixOf
  exact ckKeep_length inc cs _ L (by simp)

end Go.Proofs.Qxb6625896a.Two
