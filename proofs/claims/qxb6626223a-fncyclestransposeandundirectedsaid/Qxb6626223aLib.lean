/-
  THE LIBRARY's SORTS, in this seat's words.
-/
import Derived.Test.Qxb6626223aShelf
import Derived.Test.Qxb6626223aMat
namespace Go.Proofs.Qxb6626223a.LibC
open Go.RowKit
open Go.Proofs.Qxb6626223a.MapsV
open Go.Proofs.Qxb6626223a.Frame Go.Proofs.Qxb6626223a.Order Go.Proofs.Qxb6626223a.Find Go.Proofs.Qxb6626223a.RowsS Go.Proofs.Qxb6626223a.Insert Go.Proofs.Qxb6626223a.Agents Go.Proofs.Qxb6626223a.Same Go.Proofs.Qxb6626223a.Nest Go.Proofs.Qxb6626223a.Index Go.Proofs.Qxb6626223a.Mat
open Go.Sort (grow putRow Holds)
set_option linter.unusedVariables false
set_option linter.unusedSimpArgs false

theorem block_put {α : Type} [Inhabited α] (enc : α → Value) {w : World} {g : Nat} {cur : Array Value} {e : TypeId} {f : Nat × Nat} (hg : w.heap[g]? = some (.cells cur e f)) (d : Array α) (m : Nat) (os : Array Obj) :
    (grow (putRow enc (Sort.ahead w m) g 0 d) os).heap[g]? = some (.cells (Sort.putCells enc 0 d cur) e f) := by
  have hlt := lt_of_block hg
  rw [Sort.heap_grow_old _ _ (by simp; exact hlt)]
  simp [putRow, Sort.mapBlock, Array.getElem?_modify, hg, Sort.onCells]

theorem kept_put {α : Type} [Inhabited α] (enc : α → Value) (w : World) (g : Nat) (d : Array α) (m : Nat) (os : Array Obj) : Kept (fun k => k = g) w (grow (putRow enc (Sort.ahead w m) g 0 d) os) := by
  refine ⟨rfl, rfl, rfl, by simp, fun k hk hne => ?_⟩
  rw [Sort.heap_grow_old _ _ (by simp; exact hk)]
  simp [putRow, Sort.mapBlock, Array.getElem?_modify]
  intro h
  exact absurd h.symm hne

theorem own_put {α : Type} [Inhabited α] (enc : α → Value) {w : World} {e : TypeId} {g n cap : Nat} {xs : List Value} (h : w.ownsRow 0 e 1 (.slice (some ⟨g, 0, Option.none⟩) n cap) n xs) (d : Array α) (hd : d.size = n) (m : Nat) (os : Array Obj) :
    (grow (putRow enc (Sort.ahead w m) g 0 d) os).ownsRow 0 e 1 (.slice (some ⟨g, 0, Option.none⟩) n cap) n (d.toList.map enc) := by
  obtain ⟨h1, h2⟩ := h
  refine ⟨by simp [hd], .inr ?_⟩
  rcases h2 with ⟨h0, _⟩ | ⟨g', cap', cur, he, hb, hg, hnc, hcm, hsz, htk⟩
  · simp at h0
  · simp only [Value.slice.injEq, Option.some.injEq, Addr.mk.injEq, and_true, true_and] at he
    obtain ⟨rfl, rfl⟩ := he
    refine ⟨g, cap, _, rfl, hb, block_put enc hg d m os, hnc, hcm, by simpa [Sort.putCells] using hsz, ?_⟩
    apply List.ext_getElem?
    intro j
    rw [Nat.mul_one]
    by_cases hj : j < n
    · rw [List.getElem?_take_of_lt hj, Array.getElem?_toList, List.getElem?_map, Array.getElem?_toList]
      simp only [Sort.putCells, Array.getElem?_mapIdx]
      rw [Array.getElem?_eq_getElem (show j < cur.size by omega), Array.getElem?_eq_getElem (show j < d.size by omega)]
      simp [show j < d.size by omega]
    · rw [List.getElem?_eq_none (by simp; omega), List.getElem?_eq_none (by simp; omega)]

/-! ### strings as lists of bytes -/
def toB (s : ByteArray) : List UInt8 := s.data.toList
def ofB (l : List UInt8) : ByteArray := ⟨l.toArray⟩
theorem ofB_toB (s : ByteArray) : ofB (toB s) = s := by cases s; simp [ofB, toB]
theorem toB_ofB (l : List UInt8) : toB (ofB l) = l := by simp [ofB, toB]
theorem encStr_toB (s : ByteArray) : encStr (toB s) = .string s := by
  show Value.string (ofB (toB s)) = _
  rw [ofB_toB]
theorem map_toB (l : List ByteArray) : (l.map toB).map encStr = strs l := by
  rw [List.map_map]
  unfold strs
  exact List.map_congr_left fun s _ => encStr_toB s
theorem map_ofB (l : List (List UInt8)) : l.map encStr = strs (l.map ofB) := by
  unfold strs
  rw [List.map_map]
  rfl
theorem slt_B (a b : ByteArray) : slt a b ↔ toB a < toB b := by
  rw [slt_iff, ByteArray.toList_eq, ByteArray.toList_eq]
  rfl

theorem sorted_B (ss : List (List UInt8)) : ((ss.mergeSort fun x y => decide (x ≤ y)).map ofB).Pairwise fun a b => ¬ slt b a := by
  have tr : ∀ a b c : List UInt8, decide (a ≤ b) = true → decide (b ≤ c) = true → decide (a ≤ c) = true := fun a b c h1 h2 => by simp only [decide_eq_true_eq] at *; exact List.le_trans h1 h2
  have to : ∀ a b : List UInt8, (decide (a ≤ b) || decide (b ≤ a)) = true := fun a b => by simp only [Bool.or_eq_true, decide_eq_true_eq]; exact List.le_total a b
  have := List.pairwise_mergeSort tr to ss
  rw [List.pairwise_map]
  refine this.imp fun {a b} h => ?_
  rw [slt_B, toB_ofB, toB_ofB]
  simp only [decide_eq_true_eq] at h
  exact List.not_lt.2 h

theorem strict_of {l : List ByteArray} (h : l.Pairwise fun a b => ¬ slt b a) (hn : l.Nodup) : l.Pairwise slt := by
  have : l.Pairwise fun a b => ¬ slt b a ∧ a ≠ b := h.and hn
  refine this.imp fun {a b} ⟨h1, h2⟩ => ?_
  refine Classical.byContradiction fun h3 => h2 (slt_total a b h3 h1)

theorem sort_any (g n cap : Nat) (l : List ByteArray) (w : World) (h : OwnS w (.slice (some ⟨g, 0, Option.none⟩) n cap) l) (hl : l.length = n) (hnd : l.Nodup) (hb : n ≤ 65536) :
    Calls Try.prog 15 #[.slice (some ⟨g, 0, Option.none⟩) n cap] w fun e w' => e = .returned (.tuple #[]) ∧ ∃ l', l'.Perm l ∧ l'.Pairwise slt ∧ OwnS w' (.slice (some ⟨g, 0, Option.none⟩) n cap) l' ∧ Kept (fun k => k = g) w w' := by
  have ho : w.ownsRow 0 9 1 (.slice (some ⟨g, 0, Option.none⟩) n cap) n (strs l) := hl ▸ h
  have hH : Holds encStr w g 0 (l.map toB).toArray := fun j hj => by
    simp at hj
    have hx : (strs l)[j]? = some (.string l[j]) := by simp [strs, hj]
    have := own_cell ho hx
    rw [Nat.zero_add]
    simp [hj]
    rw [this.1]
    exact ⟨congrArg some (encStr_toB _).symm, this.2⟩
  have hC := Proofs.AnyM.slices_Sort_string Try.laysSlM6_f15 g 0 cap (l.map toB) w hH (ownsRow_lt ho rfl) (by simp; omega)
  have e1 : (l.map toB).length = n := by simp [hl]
  rw [e1] at hC
  refine hC.mono ?_
  rintro e w' ⟨rfl, m, os, rfl⟩
  refine ⟨rfl, ((l.map toB).mergeSort fun x y => decide (x ≤ y)).map ofB, ?_, ?_, ?_, kept_put encStr w g _ m os⟩
  · have := (List.mergeSort_perm (l.map toB) fun x y => decide (x ≤ y)).map ofB
    rw [List.map_map, show (ofB ∘ toB) = id from funext ofB_toB, List.map_id] at this
    exact this
  · refine strict_of (sorted_B _) ?_
    have := (List.mergeSort_perm (l.map toB) fun x y => decide (x ≤ y)).map ofB
    rw [List.map_map, show (ofB ∘ toB) = id from funext ofB_toB, List.map_id] at this
    exact this.nodup_iff.2 hnd
  · unfold OwnS
    have := own_put encStr ho (((l.map toB).mergeSort fun x y => decide (x ≤ y)).toArray) (by simp [hl]) m os
    rw [List.toList_toArray, map_ofB] at this
    rw [List.length_map, List.length_mergeSort, e1]
    exact this

/-! ### the keys -/
theorem mem_keys {w : World} {b n : Nat} {D : DataW Value} (h : w.ownsMap Try.prog 9 tok b n D) (s : ByteArray) : toB s ∈ strKeys D ↔ Maps.has D (kl s) = true := by
  obtain ⟨es, rfl, hko⟩ := h.keysOf
  show _ ↔ Maps.has (.map es) (.string (toB s)) = true
  rw [Maps.has_eq, List.any_eq_true]
  show toB s ∈ (es.map fun p => strOf p.1) ↔ _
  rw [List.mem_map]
  constructor
  · rintro ⟨p, hp, hs⟩
    obtain ⟨v, hv⟩ := hko p hp
    obtain ⟨x, _, hx, _⟩ := Maps.keyOf_str Try.underlying9 hv
    refine ⟨p, hp, ?_⟩
    rw [hx] at hs ⊢
    rw [← hs]
    simp [Lit.sameKey, strOf]
  · rintro ⟨p, hp, hs⟩
    obtain ⟨v, hv⟩ := hko p hp
    obtain ⟨x, _, hx, _⟩ := Maps.keyOf_str Try.underlying9 hv
    refine ⟨p, hp, ?_⟩
    rw [hx] at hs ⊢
    simpa [Lit.sameKey, strOf] using hs

end Go.Proofs.Qxb6626223a.LibC
