/-
  PLAIN: what Text leaves of a record, over lists.
-/
import Derived.Test.Qxb6626320aFlat
namespace Go.Proofs.Qxb6626320a.Plain
open Go.Proofs.Qxb6626320a.Parts Go.Proofs.Qxb6626320a.Flat
set_option linter.unusedVariables false
set_option linter.unusedSimpArgs false

/-- More bytes behind: more bytes behind what is written out. -/
theorem flatFrom_app (bl x : List UInt8) : ∀ (hs : List (Nat × ByteArray)) (prev : Nat), OkFrom bl.length prev hs → flatFrom (bl ++ x) prev hs = flatFrom bl prev hs ++ x
  | [], prev, h => by
    have : prev ≤ bl.length := h
    simp only [flatFrom]
    rw [List.drop_append_of_le_length this]
  | p :: r, prev, h => by
    obtain ⟨h1, h2, h3⟩ := h
    have ih := flatFrom_app bl x r p.1 h3
    simp only [flatFrom]
    rw [ih, List.drop_append_of_le_length (by omega), List.take_append_of_le_length (by rw [List.length_drop]; omega)]
    simp

theorem ok_le {n : Nat} : ∀ {hs : List (Nat × ByteArray)} {prev : Nat}, OkFrom n prev hs → prev ≤ n
  | [], _, h => h
  | p :: r, _, h => Nat.le_trans h.1 h.2.1
theorem ok_mono {n m : Nat} (hnm : n ≤ m) : ∀ {hs : List (Nat × ByteArray)} {prev : Nat}, OkFrom n prev hs → OkFrom m prev hs
  | [], _, h => Nat.le_trans h hnm
  | p :: r, _, h => ⟨h.1, Nat.le_trans h.2.1 hnm, ok_mono hnm h.2.2⟩
theorem ok_snoc {n : Nat} (s : ByteArray) : ∀ {hs : List (Nat × ByteArray)} {prev : Nat}, OkFrom n prev hs → OkFrom n prev (hs ++ [(n, s)])
  | [], _, h => ⟨h, Nat.le_refl _, Nat.le_refl _⟩
  | p :: r, _, h => ⟨h.1, h.2.1, ok_snoc s h.2.2⟩

/-- One string more, held at the end. -/
theorem flatFrom_hold (bl : List UInt8) (s : ByteArray) : ∀ (hs : List (Nat × ByteArray)) (prev : Nat), OkFrom bl.length prev hs → flatFrom bl prev (hs ++ [(bl.length, s)]) = flatFrom bl prev hs ++ s.data.toList
  | [], prev, h => by
    have : prev ≤ bl.length := h
    simp only [List.nil_append, flatFrom]
    rw [List.take_of_length_le (by rw [List.length_drop]; exact Nat.le_refl _), List.drop_eq_nil_of_le (Nat.le_refl _), List.append_nil]
  | p :: r, prev, h => by
    obtain ⟨h1, h2, h3⟩ := h
    simp only [List.cons_append, flatFrom]
    rw [flatFrom_hold bl s r p.1 h3]
    simp

def Strict : Nat → List (Nat × ByteArray) → Prop
  | _, [] => True
  | prev, p :: r => prev < p.1 ∧ Strict p.1 r
theorem Strict.snoc {n m : Nat} (hnm : n < m) (s : ByteArray) : ∀ {hs : List (Nat × ByteArray)} {prev : Nat}, OkFrom n prev hs → Strict prev hs → Strict prev (hs ++ [(m, s)])
  | [], _, h, _ => ⟨Nat.lt_of_le_of_lt h hnm, trivial⟩
  | p :: r, _, h, k => ⟨k.1, Strict.snoc hnm s h.2.2 k.2⟩

/-! ### a list of strings -/
structure Rst where
  bl : List UInt8
  hs : List (Nat × ByteArray)
  hl : Nat
def stp (st : Rst) (s : ByteArray) : Rst :=
  if s.size < 4096 then ⟨st.bl ++ frame s.data.toList, st.hs, st.hl⟩ else ⟨st.bl ++ Lib.uvarint s.size, st.hs ++ [((st.bl ++ Lib.uvarint s.size).length, s)], st.hl + s.size⟩
def run (l : List ByteArray) : Rst := l.foldl stp ⟨[], [], 0⟩
def encAll (l : List ByteArray) : List UInt8 := l.flatMap fun s => frame s.data.toList
def longs (l : List ByteArray) : List ByteArray := l.filter fun s => decide (4096 ≤ s.size)

theorem run_snoc (l : List ByteArray) (s : ByteArray) : run (l ++ [s]) = stp (run l) s := by simp [run, List.foldl_append]
theorem encAll_snoc (l : List ByteArray) (s : ByteArray) : encAll (l ++ [s]) = encAll l ++ frame s.data.toList := by simp [encAll]
theorem longs_snoc (l : List ByteArray) (s : ByteArray) : longs (l ++ [s]) = longs l ++ if 4096 ≤ s.size then [s] else [] := by
  unfold longs
  rw [List.filter_append]
  by_cases h : 4096 ≤ s.size <;> simp [h]

structure Inv (l : List ByteArray) (st : Rst) : Prop where
  flat : flat st.bl st.hs = encAll l
  ok : OkFrom st.bl.length 0 st.hs
  strict : Strict 0 st.hs
  held : st.hs.map (·.2) = longs l
  hl : st.hl = sizes st.hs

theorem inv_step {l : List ByteArray} {st : Rst} (h : Inv l st) (s : ByteArray) : Inv (l ++ [s]) (stp st s) := by
  unfold stp
  by_cases hs : s.size < 4096
  · rw [if_pos hs]
    refine ⟨?_, ok_mono (by simp) h.ok, h.strict, ?_, h.hl⟩
    · show Flat.flat _ _ = _
      unfold Flat.flat
      rw [flatFrom_app _ _ _ _ h.ok, encAll_snoc, ← h.flat]
      rfl
    · rw [longs_snoc, if_neg (by omega), List.append_nil]; exact h.held
  · rw [if_neg hs]
    have ok2 : OkFrom (st.bl ++ Lib.uvarint s.size).length 0 st.hs := ok_mono (by simp) h.ok
    have hp := Lib.uvarint_pos s.size
    refine ⟨?_, ok_snoc s ok2, Strict.snoc (n := st.bl.length) (by rw [List.length_append]; omega) s h.ok h.strict, ?_, ?_⟩
    · show Flat.flat _ _ = _
      unfold Flat.flat
      rw [flatFrom_hold _ _ _ _ ok2, flatFrom_app _ _ _ _ h.ok, encAll_snoc, ← h.flat]
      have e : s.data.toList.length = s.size := by simp
      unfold frame
      rw [e, List.append_assoc]
      rfl
    · rw [longs_snoc, if_pos (by omega), List.map_append, h.held]; rfl
    · show st.hl + s.size = _
      rw [sizes_append, h.hl]
      simp [sizes]

theorem inv_take (ss : List ByteArray) : ∀ i, i ≤ ss.length → Inv (ss.take i) (run (ss.take i))
  | 0, _ => ⟨rfl, Nat.le_refl _, trivial, rfl, rfl⟩
  | i + 1, h => by
    have ih := inv_take ss i (by omega)
    rw [List.take_succ_eq_append_getElem (by omega), run_snoc]
    exact inv_step ih _

end Go.Proofs.Qxb6626320a.Plain
