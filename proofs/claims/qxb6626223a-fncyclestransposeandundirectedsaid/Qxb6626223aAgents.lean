/-
  THE WALK of zzAgents.
-/
import Derived.Test.Qxb6626223aInsertWalk
import Derived.Test.Qxb6626223aPlainU
namespace Go.Proofs.Qxb6626223a.Agents
open Go.RowKit
open Go.Proofs.Qxb6626223a.Frame Go.Proofs.Qxb6626223a.Order Go.Proofs.Qxb6626223a.Find Go.Proofs.Qxb6626223a.RowsS Go.Proofs.Qxb6626223a.Insert
set_option linter.unusedVariables false
set_option linter.unusedSimpArgs false

/-- A conflict: Earlier, Later, Node, Key. -/
structure Q4 where
  e : ByteArray
  l : ByteArray
  n : ByteArray
  k : ByteArray

/-- A slice whose elements read as the conflicts cs. -/
def Held (w : World) (ao : Option Addr) (cs : List Q4) : Prop := ∀ (i : Nat) c, cs[i]? = some c → ∃ g off, ao = some ⟨g, off, Option.none⟩ ∧ w.cell? ⟨g, off + i * 4, Option.none⟩ = some (.string c.e) ∧ w.cell? ⟨g, off + i * 4 + 1, Option.none⟩ = some (.string c.l) ∧
  w.cell? ⟨g, off + i * 4 + 2, Option.none⟩ = some (.string c.n) ∧ w.cell? ⟨g, off + i * 4 + 3, Option.none⟩ = some (.string c.k)

theorem Held.kept {w w' : World} {ao : Option Addr} {cs : List Q4} {S : Nat → Prop} (h : Held w ao cs) (hk : Kept S w w') (hS : ∀ a, ao = some a → ¬ S a.block) : Held w' ao cs := fun i c hc => by
  obtain ⟨g, off, e, h1, h2, h3, h4⟩ := h i c hc
  have hs := hS _ e
  exact ⟨g, off, e, hk.cell h1 hs, hk.cell h2 hs, hk.cell h3 hs, hk.cell h4 hs⟩

def pairs (cs : List Q4) : List (ByteArray × ByteArray) := cs.map fun c => (c.e, c.l)
theorem pairs_len (cs : List Q4) : (pairs cs).length = cs.length := by simp [pairs]

/-- The value's row, if any, is newer than w. -/
def Fresh (w : World) (v : Value) : Prop := ∀ k, v.ownBlock = some k → w.heap.size ≤ k
theorem Fresh.onward {w wr : World} {v v' : Value} (h : Fresh w v) (hs : w.heap.size ≤ wr.heap.size) (ho : Onward wr v v') : Fresh w v' := fun k hk => by
  rcases ho with e | ⟨g, e, hg⟩
  · exact h k (by rw [← e]; exact hk)
  · rw [e] at hk; cases hk; omega
theorem _root_.Go.Proofs.Qxb6626223a.Frame.Kept.fresh {S : Nat → Prop} {w wr w1 : World} {v : Value} (h : Kept S w wr) (hf : Fresh w v) (h1 : Kept (rowOf v) wr w1) : Kept S w w1 :=
  ⟨h1.os.trans h.os, h1.tape.trans h.tape, h1.output.trans h.output, Nat.le_trans h.size h1.size, fun k hk hs => by
    rw [h1.block k (Nat.lt_of_lt_of_le hk h.size) (fun hr => by have := hf k hr; omega), h.block k hk hs]⟩
theorem fresh_nil (w : World) : Fresh w (.slice Option.none 0 0) := fun k hk => by simp [Value.ownBlock] at hk

/-- The agents of the pairs, sorted, each once. -/
def AgentsOf (E : List (ByteArray × ByteArray)) (A : List ByteArray) : Prop := A.Pairwise slt ∧ (∀ y, y ∈ A ↔ ∃ p ∈ E, y = p.1 ∨ y = p.2) ∧ A.length ≤ 2 * E.length

theorem AgentsOf.step {E : List (ByteArray × ByteArray)} {A B C : List ByteArray} {p : ByteArray × ByteArray} (h : AgentsOf E A) (h1 : InsOf A p.1 B) (h2 : InsOf B p.2 C) : AgentsOf (E ++ [p]) C := by
  refine ⟨h2.1, fun y => ?_, ?_⟩
  · rw [h2.2.1, h1.2.1, h.2.1]
    constructor
    · rintro ((⟨q, hq, hy⟩ | hy) | hy)
      · exact ⟨q, by simp [hq], hy⟩
      · exact ⟨p, by simp, .inl hy⟩
      · exact ⟨p, by simp, .inr hy⟩
    · rintro ⟨q, hq, hy⟩
      rcases List.mem_append.1 hq with hq | hq
      · exact .inl (.inl ⟨q, hq, hy⟩)
      · rw [List.mem_singleton.1 hq] at hy
        rcases hy with hy | hy
        · exact .inl (.inr hy)
        · exact .inr hy
  · have a := h.2.2
    have b := h1.2.2
    have c := h2.2.2
    rw [List.length_append, List.length_singleton]
    omega

theorem pairs_take {cs : List Q4} {i : Nat} {c : Q4} (h : cs[i]? = some c) : (pairs cs).take (i + 1) = (pairs cs).take i ++ [(c.e, c.l)] := by
  rw [List.take_add_one]
  simp [pairs, h]

set_option maxHeartbeats 4000000 in
set_option maxRecDepth 100000 in
theorem agents_any (ao : Option Addr) (n cap : Nat) (cs : List Q4) (w : World) (hH : Held w ao cs) (hl : cs.length = n) (hn : n ≤ 65536) :
    Calls Try.prog 20 #[.slice ao n cap] w fun e w' => ∃ v A, e = .returned v ∧ OwnS w' v A ∧ AgentsOf (pairs cs) A ∧ Kept nothing w w' ∧ Fresh w v := by
  have HH : Hid (Held w ao cs) := hH
  have HL : Hid (cs.length = n) := hl
  clear hH hl
  go_enter Try.func20, Try.ntmps20
  go_wp2
  go_loopw [3, 4] (fun v iv wr => ∃ (i : Nat) (vv : Value), i ≤ n ∧ vv = v ∧ iv = .int .i64 i ∧ Hid (Kept nothing w wr) ∧ Hid (Fresh w vv) ∧ Hid (∃ A, OwnS wr vv A ∧ AgentsOf ((pairs cs).take i) A)) (fun _ iv _ => n - (intOf iv).toNat)
  case atStart => exact ⟨0, _, Nat.zero_le _, rfl, by go_num, Kept.refl _ _, fresh_nil _, [], World.ownsRow_nil _ _ _ _, by simp, by simp, by simp⟩
  case round =>
    obtain ⟨i, vv, hi, rfl, rfl, HK, HF, HA⟩ := hrel
    by_cases hlt : i < n
    · obtain ⟨c, hc⟩ : ∃ c, cs[i]? = some c := ⟨_, List.getElem?_eq_getElem (by rw [HL.out]; exact hlt)⟩
      obtain ⟨A, oA, hA⟩ := HA.out
      have lenA : A.length ≤ 131072 := by
        have := hA.2.2
        rw [List.length_take] at this
        omega
      obtain ⟨g, off, rfl, c0, c1, -, -⟩ := HH.out i c hc
      have d0 := HK.out.cell c0 id
      have b1 : g < w.heap.size := lt_of_cell c0
      have HC1 : Hid (w.cell? ⟨g, off + i * 4 + 1, Option.none⟩ = some (.string c.l)) := c1
      have STP : Hid (∀ B C, InsOf A c.e B → InsOf B c.l C → AgentsOf ((pairs cs).take (i + 1)) C) := fun B C h1 h2 => by
        rw [pairs_take hc]
        exact AgentsOf.step (p := (c.e, c.l)) hA h1 h2
      have IA := insert_any vv A c.e wr oA (by omega) hA.1
      have HAA : Hid (AgentsOf ((pairs cs).take i) A) := hA
      clear hc c0 c1 HA hA
      go_wp2_with fail
      refine IA.mono ?_
      rintro e w1 ⟨v1, B, rfl, oB, iB, k1, o1⟩
      have K1 : Hid (Kept nothing w w1) := HK.out.fresh HF.out k1
      have F1 : Hid (Fresh w v1) := HF.out.onward HK.out.size o1
      have d1 := K1.out.cell HC1.out id
      have IB := insert_any v1 B c.l w1 oB (by have := iB.2.2; omega) iB.1
      have HIB : Hid (InsOf A c.e B) := iB
      clear IA oA k1 o1 oB iB d0 HK HF
      go_wp2_with fail
      refine IB.mono ?_
      rintro e w2 ⟨v2, C, rfl, oC, iC, k2, o2⟩
      have K2 : Hid (Kept nothing w w2) := K1.out.fresh F1.out k2
      have F2 : Hid (Fresh w v2) := F1.out.onward K1.out.size o2
      have HA2 : Hid (∃ A, OwnS w2 v2 A ∧ AgentsOf ((pairs cs).take (i + 1)) A) := ⟨C, oC, STP.out B C HIB.out iC⟩
      clear IB oC iC k2 o2 d1 STP K1 F1
      go_wp2
      go_roundw
      case rel => exact ⟨i + 1, _, by omega, rfl, by go_num, K2, F2, HA2⟩
      case measure => simp [intOf]; omega
    · obtain rfl : i = n := by omega
      go_wp2
      go_ret
      obtain ⟨A, oA, hA⟩ := HA.out
      rw [List.take_of_length_le (by rw [pairs_len, HL.out]; exact Nat.le_refl _)] at hA
      exact ⟨_, A, rfl, oA, hA, HK.out, HF.out⟩

end Go.Proofs.Qxb6626223a.Agents
