/-
  THE WALK of zzInsert.
-/
import Derived.Test.Qxb6626223aRows2
namespace Go.Proofs.Qxb6626223a.Insert
open Go.RowKit
open Go.Proofs.Qxb6626223a.Frame Go.Proofs.Qxb6626223a.Order Go.Proofs.Qxb6626223a.Find Go.Proofs.Qxb6626223a.RowsS
set_option linter.unusedVariables false
set_option linter.unusedSimpArgs false

theorem info9 : (Try.prog.info? 9).map (fun i => (i.zero, i.size, i.bytes)) = some (some (.string ByteArray.empty), 1, 16) := by kernel_rfl

theorem src_one (w : World) (t e : TypeId) (ht : Try.prog.underlying t = some (.slice e)) (v : Value) (h1 : v.oneCell' = true) (u : TypeId) : Src Try.prog 1 t (.slice (some ⟨w.heap.size, 0, Option.none⟩) 1 1) 1 [v] (w.alloc (.cells #[v] u)) :=
  Src.ofSlice (w.alloc (.cells #[v] u)) ht ⟨w.heap.size, 0, Option.none⟩ 1 1 [v] rfl (fun j x hj => by
    match j, hj with
    | 0, hj => simp at hj; subst hj; exact (cell_of (block_new _ _) _).trans rfl) (fun x hx => by simp at hx; subst hx; exact h1)

/-- 'append(s, x)' onto a row of strings. -/
theorem push_s {w : World} {v : Value} {l : List ByteArray} (h : OwnS w v l) (s : ByteArray) (hl : l.length ≤ 1099511627776) :
    ∃ v' w', (Builtin.append_ #[34, 34] 34 #[v, .slice (some ⟨w.heap.size, 0, Option.none⟩) 1 1]).run Try.prog (w.alloc (.cells #[.string s] 9)) = .ok v' w' ∧ OwnS w' v' (l ++ [s]) ∧ Kept (rowOf v) w w' ∧ Onward w v v' := by
  obtain ⟨i, hi, hz, hs, hb⟩ := info_parts info9
  have hown : (w.alloc (.cells #[.string s] 9)).ownsRow 0 9 1 v l.length (strs l) := World.ownsRow.alloc h _
  obtain ⟨v', w', hrun, h1, h2, h3⟩ := run_append_owns (P := Try.prog) (w.alloc (.cells #[.string s] 9)) 34 34 34 9 i _ 1 16 Try.underlying34 hi hz hs hb rfl (by decide) v l.length (strs l) hown _ 1 [.string s] (src_one w 34 9 Try.underlying34 _ rfl 9) (by unfold maxLen; omega) (by omega)
  refine ⟨v', w', hrun, ?_, h2.alloc_from, ?_⟩
  · unfold OwnS
    rw [List.length_append, show strs (l ++ [s]) = strs l ++ [.string s] from by simp [strs]]
    exact h1
  · rcases h3 with e | ⟨g, e, hg⟩
    · exact .inl e
    · exact .inr ⟨g, e, by rw [World.size_alloc] at hg; omega⟩

/-- The row with a hole at j. -/
def holed (l : List ByteArray) (j : Nat) (h : ByteArray) : List ByteArray := l.take j ++ h :: l.drop j
theorem holed_len {l : List ByteArray} {j : Nat} (hj : j ≤ l.length) (h : ByteArray) : (holed l j h).length = l.length + 1 := by
  simp [holed]; omega
theorem holed_end (l : List ByteArray) (h : ByteArray) : holed l l.length h = l ++ [h] := by simp [holed]
theorem holed_at (l : List ByteArray) {j i : Nat} (hi : i < j) (hj : j ≤ l.length) (h : ByteArray) : (holed l j h)[i]? = l[i]? := by
  unfold holed
  rw [List.getElem?_append_left (by rw [List.length_take]; omega), List.getElem?_take_of_lt hi]
theorem holed_set (l : List ByteArray) {j : Nat} (hj : j ≤ l.length) (h u : ByteArray) : (holed l j h).set j u = holed l j u := by
  unfold holed
  rw [List.set_append_right _ _ (by rw [List.length_take]; omega), List.length_take, Nat.min_eq_left hj, Nat.sub_self]
  rfl
/-- The hole moves down. -/
theorem holed_down (l : List ByteArray) {j : Nat} {s : ByteArray} (hs : l[j]? = some s) : holed l (j + 1) s = holed l j s := by
  obtain ⟨h1, h2⟩ := List.getElem?_eq_some_iff.1 hs
  unfold holed
  rw [List.take_add_one, hs, List.drop_eq_getElem_cons h1, h2]
  simp

theorem strs_set (l : List ByteArray) (i : Nat) (u : ByteArray) : (strs l).set i (.string u) = strs (l.set i u) := by simp [strs, List.map_set]

theorem OwnS.set {w : World} {g n cap : Nat} {l : List ByteArray} (h : OwnS w (.slice (some ⟨g, 0, Option.none⟩) n cap) l) (hn : l.length = n) {i : Nat} (hi : i < n) (u : ByteArray) : OwnS (w.setCell ⟨g, i, Option.none⟩ (.string u)) (.slice (some ⟨g, 0, Option.none⟩) n cap) (l.set i u) := by
  unfold OwnS at *
  rw [hn] at h
  rw [List.length_set, hn, ← strs_set]
  exact own_set h hi _

/-- What the insertion leaves. -/
def InsOf (l : List ByteArray) (x : ByteArray) (l' : List ByteArray) : Prop := l'.Pairwise slt ∧ (∀ y, y ∈ l' ↔ y ∈ l ∨ y = x) ∧ l'.length ≤ l.length + 1

theorem ins_there {l : List ByteArray} {x : ByteArray} (h : l.Pairwise slt) (hx : x ∈ l) : InsOf l x l := ⟨h, fun y => ⟨.inl, fun h => h.elim id fun e => e ▸ hx⟩, Nat.le_succ _⟩

theorem ins_new {l : List ByteArray} {x : ByteArray} {k : Nat} (h : l.Pairwise slt) (hp : IsPlace l x k) (hx : l[k]? ≠ some x) : InsOf l x (holed l k x) := by
  obtain ⟨h1, h2, h3⟩ := hp
  refine ⟨?_, fun y => ?_, by rw [holed_len h1]; exact Nat.le_refl _⟩
  · unfold holed
    rw [List.pairwise_append, List.pairwise_cons]
    refine ⟨h.sublist (List.take_sublist _ _), ⟨fun y hy => ?_, h.sublist (List.drop_sublist _ _)⟩, fun a ha b hb => ?_⟩
    · obtain ⟨i, hi⟩ := List.getElem?_of_mem hy
      rw [List.getElem?_drop] at hi
      refine Classical.byContradiction fun hn => ?_
      have e := slt_total x y hn (h3 _ y (Nat.le_add_right _ _) hi)
      subst e
      cases i with
      | zero => exact hx hi
      | succ i =>
        obtain ⟨s, hs⟩ : ∃ s, l[k]? = some s := ⟨_, List.getElem?_eq_getElem (by have := (List.getElem?_eq_some_iff.1 hi).1; omega)⟩
        exact h3 k s (Nat.le_refl _) hs (sorted_at h (by omega) hs hi)
    · obtain ⟨i, hi⟩ := List.getElem?_of_mem ha
      have hik : i < k := by
        have := (List.getElem?_eq_some_iff.1 hi).1
        rw [List.length_take] at this; omega
      rw [List.getElem?_take_of_lt hik] at hi
      have hax := h2 i a hik hi
      rcases List.mem_cons.1 hb with rfl | hb
      · exact hax
      · obtain ⟨i', hi'⟩ := List.getElem?_of_mem hb
        rw [List.getElem?_drop] at hi'
        exact sorted_at h (by omega) hi hi'
  · unfold holed
    rw [List.mem_append, List.mem_cons]
    constructor
    · rintro (hy | rfl | hy)
      · exact .inl (List.mem_of_mem_take hy)
      · exact .inr rfl
      · exact .inl (List.mem_of_mem_drop hy)
    · rintro (hy | rfl)
      · rw [← List.take_append_drop k l] at hy
        rcases List.mem_append.1 hy with hy | hy
        · exact .inl hy
        · exact .inr (.inr hy)
      · exact .inr (.inl rfl)

end Go.Proofs.Qxb6626223a.Insert
