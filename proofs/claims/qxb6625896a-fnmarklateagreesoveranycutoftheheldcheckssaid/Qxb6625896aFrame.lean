/-
  A FRAME: what a call leaves of memory, block by block: 'Kept S w w'': the blocks of w outside S are as they were; new blocks may have come. No Go text in sight.
-/
import Derived.WalkKit
import Derived.ProofKit
import Derived.Below
import Derived.BigQuiet
import Derived.Deep.QuietTactic
namespace Go.Proofs.Qxb6625896a.Frame
open Go.RowKit
set_option linter.unusedVariables false
set_option linter.unusedSimpArgs false

structure Kept (S : Nat → Prop) (w w' : World) : Prop where
  os : w'.os = w.os
  tape : w'.tape = w.tape
  output : w'.output = w.output
  size : w.heap.size ≤ w'.heap.size
  block : ∀ k, k < w.heap.size → ¬ S k → w'.heap[k]? = w.heap[k]?

def nothing : Nat → Prop := fun _ => False

theorem Kept.refl (S : Nat → Prop) (w : World) : Kept S w w := ⟨rfl, rfl, rfl, Nat.le_refl _, fun _ _ _ => rfl⟩
theorem Kept.trans {S : Nat → Prop} {a b c : World} (h : Kept S a b) (k : Kept S b c) : Kept S a c :=
  ⟨k.os.trans h.os, k.tape.trans h.tape, k.output.trans h.output, Nat.le_trans h.size k.size, fun i hi hs => (k.block i (Nat.lt_of_lt_of_le hi h.size) hs).trans (h.block i hi hs)⟩
theorem Kept.mono {S T : Nat → Prop} {w w' : World} (h : Kept S w w') (hs : ∀ k, k < w.heap.size → S k → T k) : Kept T w w' :=
  ⟨h.os, h.tape, h.output, h.size, fun k hk ht => h.block k hk fun hS => ht (hs k hk hS)⟩
theorem Kept.drew {S : Nat → Prop} {a w : World} (h : Kept S a w) : Kept S a w.drew := ⟨h.os, h.tape, h.output, h.size, h.block⟩
theorem Kept.drewN {S : Nat → Prop} {a w : World} (h : Kept S a w) (n : Nat) : Kept S a (w.drewN n) := ⟨h.os, h.tape, h.output, h.size, h.block⟩
theorem Kept.alloc {S : Nat → Prop} {a w : World} (h : Kept S a w) (o : Obj) : Kept S a (w.alloc o) :=
  ⟨h.os, h.tape, h.output, by have := h.size; simp; omega, fun k hk hs => (Below.heap_alloc w o k (Nat.lt_of_lt_of_le hk h.size)).trans (h.block k hk hs)⟩
theorem Kept.setCell {S : Nat → Prop} {a w : World} (h : Kept S a w) {p : Addr} (hp : S p.block ∨ a.heap.size ≤ p.block) (u : Value) : Kept S a (w.setCell p u) :=
  ⟨h.os, h.tape, h.output, by have := h.size; simp; omega, fun k hk hs => (Below.heap_setCell w p u k (by rintro rfl; rcases hp with hp | hp; exact hs hp; omega)).trans (h.block k hk hs)⟩
theorem Kept.of_below {S : Nat → Prop} {w w' : World} (h : Below w.heap.size w w') : Kept S w w' := ⟨h.os, h.tape, h.output, h.size, fun k hk _ => h.block k hk⟩
theorem Kept.below {S : Nat → Prop} {w w' : World} (h : Kept S w w') {B : Nat} (hB : B ≤ w.heap.size) (hs : ∀ k, S k → B ≤ k) : Below B w w' :=
  ⟨h.os, h.tape, h.output, h.size, fun k hk => h.block k (Nat.lt_of_lt_of_le hk hB) fun hS => Nat.lt_irrefl _ (Nat.lt_of_lt_of_le hk (hs k hS))⟩
theorem Kept.at {S : Nat → Prop} {w w' : World} (h : Kept S w w') {k : Nat} {o : Obj} (hk : w.heap[k]? = some o) (hs : ¬ S k) : w'.heap[k]? = some o := by
  rw [h.block k (lt_of_block hk) hs]; exact hk
theorem Kept.cell {S : Nat → Prop} {w w' : World} (h : Kept S w w') {a : Addr} {v : Value} (hc : w.cell? a = some v) (hs : ¬ S a.block) : w'.cell? a = some v := by
  have hlt : a.block < w.heap.size := by
    rcases Nat.lt_or_ge a.block w.heap.size with h' | h'
    · exact h'
    · simp [World.cell?, Array.getElem?_eq_none h'] at hc
  rw [World.cell?_of_block (w := w) (h.block a.block hlt hs)]; exact hc

/-! ### blocks of cells -/
theorem cell_of {w : World} {b : Nat} {A : Array Value} {t : TypeId} {f : Nat × Nat} (h : w.heap[b]? = some (.cells A t f)) (o : Nat) : w.cell? ⟨b, o, Option.none⟩ = A[o]? := by simp [World.cell?, h]
theorem free_of {w : World} {b : Nat} {A : Array Value} {t : TypeId} (h : w.heap[b]? = some (.cells A t (0, 0))) (o : Nat) : w.frozen? ⟨b, o, Option.none⟩ = false := by simp [World.frozen?, h]
theorem block_set {w : World} {b : Nat} {A : Array Value} {t : TypeId} {f : Nat × Nat} (h : w.heap[b]? = some (.cells A t f)) (o : Nat) (u : Value) : (w.setCell ⟨b, o, Option.none⟩ u).heap[b]? = some (.cells (A.setIfInBounds o u) t f) := by
  simp [World.setCell, Array.getElem?_modify, h]
theorem block_set_ne {w : World} {b k : Nat} (o : Nat) (u : Value) (hne : k ≠ b) : (w.setCell ⟨b, o, Option.none⟩ u).heap[k]? = w.heap[k]? := Below.heap_setCell w _ u k hne
theorem block_new (w : World) (o : Obj) : (w.alloc o).heap[w.heap.size]? = some o := (MapKept.heap_alloc w o).1
theorem block_old {w : World} {k : Nat} {x : Obj} (o : Obj) (h : w.heap[k]? = some x) : (w.alloc o).heap[k]? = some x := by rw [Below.heap_alloc w o k (lt_of_block h)]; exact h

theorem cell_set_ne {w : World} {b k : Nat} (o p : Nat) (u : Value) (hne : k ≠ b) : (w.setCell ⟨b, o, Option.none⟩ u).cell? ⟨k, p, Option.none⟩ = w.cell? ⟨k, p, Option.none⟩ := World.cell?_of_block (w := w) (block_set_ne o u hne)

/-- An append whose run is known. -/
theorem wpList_append_run {P : Program} (w : World) {ops : Array Oper} {rest : List Oper} {o : Oper} {a : Act} {Q : Exit → Act → World → Prop}
    (hg : o.guard = Option.none) (s x : Operand) (t u : TypeId) (hop : o.op = Op.call { callee := Callee.builtin Builtin.append, args := #[s, x], argTypes := #[t, u] })
    (vs vx v' : Value) (w' : World) (hs : a.eval s = vs) (hx : a.eval x = vx) (hrun : (Builtin.append_ #[t, u] o.type #[vs, vx]).run P w = .ok v' w')
    (hK : wpList P ops Q rest (a.put o.dst v') w') : wpList P ops Q (o :: rest) a w := by
  refine wpList_plain hg fun K hK' => ?_
  unfold Oper.wp
  simp [execOp, hop, resolve, invoke, builtin, hs, hx, hrun, Result.andThen]
  exact hK' _ _ hK

end Go.Proofs.Qxb6625896a.Frame
