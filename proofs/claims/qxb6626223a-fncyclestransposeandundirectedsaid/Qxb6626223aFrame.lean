/-
  A FRAME: what a call leaves of memory, block by block: 'Kept S w w'': the blocks of w outside S are as they were; new blocks may have come. No Go text in sight.
-/
import Derived.WalkKit
import Derived.ProofKit
import Derived.Below
import Derived.BigQuiet
import Derived.Deep.QuietTactic
import Derived.Deep.AppendSrc
import Derived.Laws.OwnMore
import Derived.Deep.RegionLaw
namespace Go.Proofs.Qxb6626223a.Frame
open Go.RowKit
set_option linter.unusedVariables false
set_option linter.unusedSimpArgs false

structure Kept (S : Nat → Prop) (w w' : World) : Prop where
  os : w'.os = w.os
  tape : w'.tape = w.tape
  output : w'.output = w.output
  size : w.heap.size ≤ w'.heap.size
  block : ∀ k, k < w.heap.size → ¬ S k → w'.heap[k]? = w.heap[k]?

def nothing : Nat → Prop := fun _ => False

theorem Kept.refl (S : Nat → Prop) (w : World) : Kept S w w := ⟨rfl, rfl, rfl, Nat.le_refl _, fun _ _ _ => rfl⟩
theorem Kept.trans {S : Nat → Prop} {a b c : World} (h : Kept S a b) (k : Kept S b c) : Kept S a c :=
  ⟨k.os.trans h.os, k.tape.trans h.tape, k.output.trans h.output, Nat.le_trans h.size k.size, fun i hi hs => (k.block i (Nat.lt_of_lt_of_le hi h.size) hs).trans (h.block i hi hs)⟩
theorem Kept.mono {S T : Nat → Prop} {w w' : World} (h : Kept S w w') (hs : ∀ k, k < w.heap.size → S k → T k) : Kept T w w' :=
  ⟨h.os, h.tape, h.output, h.size, fun k hk ht => h.block k hk fun hS => ht (hs k hk hS)⟩
theorem Kept.drew {S : Nat → Prop} {a w : World} (h : Kept S a w) : Kept S a w.drew := ⟨h.os, h.tape, h.output, h.size, h.block⟩
theorem Kept.drewN {S : Nat → Prop} {a w : World} (h : Kept S a w) (n : Nat) : Kept S a (w.drewN n) := ⟨h.os, h.tape, h.output, h.size, h.block⟩
theorem Kept.alloc {S : Nat → Prop} {a w : World} (h : Kept S a w) (o : Obj) : Kept S a (w.alloc o) :=
  ⟨h.os, h.tape, h.output, by have := h.size; simp; omega, fun k hk hs => (Below.heap_alloc w o k (Nat.lt_of_lt_of_le hk h.size)).trans (h.block k hk hs)⟩
theorem Kept.setCell {S : Nat → Prop} {a w : World} (h : Kept S a w) {p : Addr} (hp : S p.block ∨ a.heap.size ≤ p.block) (u : Value) : Kept S a (w.setCell p u) :=
  ⟨h.os, h.tape, h.output, by have := h.size; simp; omega, fun k hk hs => (Below.heap_setCell w p u k (by rintro rfl; rcases hp with hp | hp; exact hs hp; omega)).trans (h.block k hk hs)⟩
theorem Kept.of_below {S : Nat → Prop} {w w' : World} (h : Below w.heap.size w w') : Kept S w w' := ⟨h.os, h.tape, h.output, h.size, fun k hk _ => h.block k hk⟩
theorem Kept.below {S : Nat → Prop} {w w' : World} (h : Kept S w w') {B : Nat} (hB : B ≤ w.heap.size) (hs : ∀ k, S k → B ≤ k) : Below B w w' :=
  ⟨h.os, h.tape, h.output, h.size, fun k hk => h.block k (Nat.lt_of_lt_of_le hk hB) fun hS => Nat.lt_irrefl _ (Nat.lt_of_lt_of_le hk (hs k hS))⟩
theorem Kept.at {S : Nat → Prop} {w w' : World} (h : Kept S w w') {k : Nat} {o : Obj} (hk : w.heap[k]? = some o) (hs : ¬ S k) : w'.heap[k]? = some o := by
  rw [h.block k (lt_of_block hk) hs]; exact hk
theorem Kept.cell {S : Nat → Prop} {w w' : World} (h : Kept S w w') {a : Addr} {v : Value} (hc : w.cell? a = some v) (hs : ¬ S a.block) : w'.cell? a = some v := by
  have hlt : a.block < w.heap.size := by
    rcases Nat.lt_or_ge a.block w.heap.size with h' | h'
    · exact h'
    · simp [World.cell?, Array.getElem?_eq_none h'] at hc
  rw [World.cell?_of_block (w := w) (h.block a.block hlt hs)]; exact hc

/-! ### blocks of cells -/
theorem cell_of {w : World} {b : Nat} {A : Array Value} {t : TypeId} {f : Nat × Nat} (h : w.heap[b]? = some (.cells A t f)) (o : Nat) : w.cell? ⟨b, o, Option.none⟩ = A[o]? := by simp [World.cell?, h]
theorem free_of {w : World} {b : Nat} {A : Array Value} {t : TypeId} (h : w.heap[b]? = some (.cells A t (0, 0))) (o : Nat) : w.frozen? ⟨b, o, Option.none⟩ = false := by simp [World.frozen?, h]
theorem block_set {w : World} {b : Nat} {A : Array Value} {t : TypeId} {f : Nat × Nat} (h : w.heap[b]? = some (.cells A t f)) (o : Nat) (u : Value) : (w.setCell ⟨b, o, Option.none⟩ u).heap[b]? = some (.cells (A.setIfInBounds o u) t f) := by
  simp [World.setCell, Array.getElem?_modify, h]
theorem block_set_ne {w : World} {b k : Nat} (o : Nat) (u : Value) (hne : k ≠ b) : (w.setCell ⟨b, o, Option.none⟩ u).heap[k]? = w.heap[k]? := Below.heap_setCell w _ u k hne
theorem block_new (w : World) (o : Obj) : (w.alloc o).heap[w.heap.size]? = some o := (MapKept.heap_alloc w o).1
theorem block_old {w : World} {k : Nat} {x : Obj} (o : Obj) (h : w.heap[k]? = some x) : (w.alloc o).heap[k]? = some x := by rw [Below.heap_alloc w o k (lt_of_block h)]; exact h

theorem cell_set_ne {w : World} {b k : Nat} (o p : Nat) (u : Value) (hne : k ≠ b) : (w.setCell ⟨b, o, Option.none⟩ u).cell? ⟨k, p, Option.none⟩ = w.cell? ⟨k, p, Option.none⟩ := World.cell?_of_block (w := w) (block_set_ne o u hne)

/-- An append whose run is known. -/
theorem wpList_append_run {P : Program} (w : World) {ops : Array Oper} {rest : List Oper} {o : Oper} {a : Act} {Q : Exit → Act → World → Prop}
    (hg : o.guard = Option.none) (s x : Operand) (t u : TypeId) (hop : o.op = Op.call { callee := Callee.builtin Builtin.append, args := #[s, x], argTypes := #[t, u] })
    (vs vx v' : Value) (w' : World) (hs : a.eval s = vs) (hx : a.eval x = vx) (hrun : (Builtin.append_ #[t, u] o.type #[vs, vx]).run P w = .ok v' w')
    (hK : wpList P ops Q rest (a.put o.dst v') w') : wpList P ops Q (o :: rest) a w := by
  refine wpList_plain hg fun K hK' => ?_
  unfold Oper.wp
  simp [execOp, hop, resolve, invoke, builtin, hs, hx, hrun, Result.andThen]
  exact hK' _ _ hK


/-! ### rows that the call owns -/

/-- The row of v' is v's own, or a new one. -/
def Onward (w : World) (v v' : Value) : Prop := v'.ownBlock = v.ownBlock ∨ ∃ g, v'.ownBlock = some g ∧ w.heap.size ≤ g

/-- The blocks that an append onto v may turn. -/
def rowOf (v : Value) : Nat → Prop := fun k => v.ownBlock = some k

theorem kept_setCells {S : Nat → Prop} {a : World} {b : Nat} (hp : S b ∨ a.heap.size ≤ b) : ∀ (vs : List Value) (o : Nat) (w : World), Kept S a w → Kept S a (w.setCells b o vs)
  | [], _, _, h => h
  | v :: r, o, w, h => kept_setCells hp r _ _ (h.setCell hp v)

theorem setCells_block {b : Nat} {t : TypeId} {f : Nat × Nat} : ∀ (vs : List Value) (o : Nat) (w : World) (A : Array Value), w.heap[b]? = some (.cells A t f) → o + vs.length ≤ A.size →
    ∃ A', (w.setCells b o vs).heap[b]? = some (.cells A' t f) ∧ A'.size = A.size ∧ A'.toList.take (o + vs.length) = A.toList.take o ++ vs
  | [], o, w, A, h, _ => ⟨A, h, rfl, by simp⟩
  | v :: r, o, w, A, h, hl => by
    simp only [List.length_cons] at hl
    obtain ⟨A', h1, h2, h3⟩ := setCells_block r (o + 1) _ _ (block_set h o v) (by simp; omega)
    refine ⟨A', h1, by simpa using h2, ?_⟩
    rw [show o + (v :: r).length = o + 1 + r.length by simp; omega, h3, Array.toList_setIfInBounds, List.take_succ_eq_append_getElem (by simp; omega)]
    simp [List.take_set_of_le]

/-- 'append' onto a row of the call's own (nil too), whatever is appended. -/
theorem run_append_owns {P : Program} (w : World) (t tx ty e : TypeId) (i : TypeInfo) (z : Value) (size bytes : Nat) (ht : P.underlying t = some (.slice e)) (hi : P.info? e = some i) (hz : i.zero = some z)
    (hsize : i.size = size) (hby : i.bytes = bytes) (hzs : z.cells.size = size) (hsz : 0 < size)
    (v : Value) (n : Nat) (xs : List Value) (hown : w.ownsRow 0 e size v n xs) (x : Value) (m : Nat) (news : List Value) (hs : Src P size tx x m news w)
    (h63 : n + m ≤ maxLen) (hbytes : (n + m) * bytes ≤ 140737488355328) :
    ∃ v' w', (Builtin.append_ #[t, tx] ty #[v, x]).run P w = .ok v' w' ∧ w'.ownsRow 0 e size v' (n + m) (xs ++ news) ∧ Kept (rowOf v) w w' ∧ Onward w v v' := by
  subst hsize
  subst hby
  have hsmall : n + m ≤ 9223372036854775807 := by simp only [maxLen] at h63; omega
  have hlen : (xs ++ news).length = (n + m) * i.size := by rw [List.length_append, hown.1, hs.newsLen, Nat.add_mul]
  have grown : ∀ (base : Option Addr) (old : Nat), v = .slice base n old → old < n + m → (Builtin.firstCells i.size n (.slice base n old)).run P w.drew = .ok xs.toArray w.drew →
      ∃ v' w', (Builtin.append_ #[t, tx] ty #[v, x]).run P w = .ok v' w' ∧ w'.ownsRow 0 e i.size v' (n + m) (xs ++ news) ∧ Kept (rowOf v) w w' ∧ Onward w v v' := by
    intro base old hv ho hold
    subst hv
    have hge := grownCap_ge w (n + m) old e
    have hcm : grownCap w (n + m) old e ≤ maxLen := grownCap_le_maxLen w (n + m) old e h63
    have hr := run_append_grow_src (P := P) w t tx ty e i z ht hi hz base n old xs hold x m news hs ho (by omega) (growslice_fits ho hbytes)
    refine ⟨_, _, hr, ⟨hlen, .inr ⟨w.heap.size, _, _, rfl, Nat.zero_le _, heap_alloc_new w.drew _, hge, hcm, ?_, ?_⟩⟩, ((Kept.refl _ w).drew).alloc _, .inr ⟨w.heap.size, rfl, Nat.le_refl _⟩⟩
    · simp only [Array.size_append, List.size_toArray, size_zeroCells, hzs, hlen, ← Nat.add_mul]
      congr 1
      omega
    · simp only [Array.toList_append]
      rw [← hlen]
      exact List.take_left
  rcases hown.2 with ⟨rfl, rfl⟩ | ⟨g, cap, cur, rfl, _, hg, hnc, hcm, hcs, htake⟩
  · have hx : xs = [] := List.eq_nil_of_length_eq_zero (by simpa using hown.1)
    subst hx
    by_cases hm : m = 0
    · subst hm
      have hn : news = [] := List.eq_nil_of_length_eq_zero (by simpa using hs.newsLen)
      subst hn
      refine ⟨.slice Option.none 0 0, w, ?_, World.ownsRow_nil w 0 e i.size, Kept.refl _ _, .inl rfl⟩
      rcases hs.kind with ⟨e', hk⟩ | hk <;> simp [Builtin.append_, run_underlying ht, run_underlying hk, sizeOf, typeInfo, hi, hs.len, hs.cells]
    · exact grown Option.none 0 rfl (by omega) (by simpa using run_firstCells_none (P := P) w.drew i.size 0 0 0)
  · by_cases hroom : n + m ≤ cap
    · have hfit : n * i.size + news.length ≤ cur.size := by rw [hs.newsLen, hcs, ← Nat.add_mul]; exact Nat.mul_le_mul_right _ hroom
      have hr := run_append_room_src (P := P) w t tx ty e i ht hi g 0 n cap x m news hs hroom
        (fun j hj => by rw [cell_of hg, Array.getElem?_eq_getElem (by omega)]; rfl) (fun j hj => free_of hg _)
      rw [Nat.zero_add] at hr
      obtain ⟨A', a1, a2, a3⟩ := setCells_block news (n * i.size) w cur hg hfit
      refine ⟨_, _, hr, ⟨hlen, .inr ⟨g, cap, A', rfl, Nat.zero_le _, a1, hroom, hcm, a2.trans hcs, ?_⟩⟩, kept_setCells (S := rowOf (.slice (some ⟨g, 0, Option.none⟩) n cap)) (Or.inl rfl) _ _ _ (Kept.refl _ _), .inl rfl⟩
      rw [Nat.add_mul, ← hs.newsLen, a3, htake]
    · refine grown (some ⟨g, 0, Option.none⟩) cap rfl (by omega) ?_
      exact run_firstCells_some (P := P) w.drew i.size n ⟨g, 0, Option.none⟩ n cap xs hown.1 (by have := hown.cells (g := g) rfl; simpa using this)


/-- An append whose run is known, as one step of a region that draws. -/
theorem step_append_run {P : Program} {ops : Array Oper} {o : Oper} {a : Act} {w : World} {K : Act → World → Prop} {Q : Exit → Act → World → Prop} {E : Prop}
    (hg : o.guard = Option.none) (s x : Operand) (t u : TypeId) (hop : o.op = Op.call { callee := Callee.builtin Builtin.append, args := #[s, x], argTypes := #[t, u] })
    (vs vx v' : Value) (w' : World) (hs : a.eval s = vs) (hx : a.eval x = vx) (hrun : (Builtin.append_ #[t, u] o.type #[vs, vx]).run P w = .ok v' w')
    (hK : K (a.put o.dst v') w') : if Region.wanted o (yielded ops a.tmps) = true then Oper.wp P o a w K Q else E := by
  have hw : Region.wanted o (yielded ops a.tmps) = true := by simp [Region.wanted, hg]
  rw [if_pos hw]
  unfold Oper.wp
  simp [execOp, hop, resolve, invoke, builtin, hs, hx, hrun, Result.andThen]
  exact hK

theorem Onward.refl (w : World) (v : Value) : Onward w v v := .inl rfl
theorem Onward.trans {w wr : World} {a b c : Value} (h : Onward w a b) (k : Onward wr b c) (hs : w.heap.size ≤ wr.heap.size) : Onward w a c := by
  rcases k with k | ⟨g, kg, hg⟩
  · rcases h with h | ⟨g, h, hg⟩
    · exact .inl (k.trans h)
    · exact .inr ⟨g, k.trans h, hg⟩
  · exact .inr ⟨g, kg, Nat.le_trans hs hg⟩
theorem Kept.onward {S : Nat → Prop} {w wr w1 : World} {sv vb : Value} (h : Kept S w wr) (ho : Onward w sv vb) (hS : ∀ k, rowOf sv k → S k) (h1 : Kept (rowOf vb) wr w1) : Kept S w w1 :=
  ⟨h1.os.trans h.os, h1.tape.trans h.tape, h1.output.trans h.output, Nat.le_trans h.size h1.size, fun k hk hs => by
    rw [h1.block k (Nat.lt_of_lt_of_le hk h.size) ?_, h.block k hk hs]
    intro hr
    rcases ho with e | ⟨g, e, hg⟩
    · exact hs (hS k (by unfold rowOf; rw [← e]; exact hr))
    · unfold rowOf at hr
      rw [e] at hr
      cases hr
      omega⟩
theorem Kept.drew_from {S : Nat → Prop} {w w' : World} (h : Kept S w.drew w') : Kept S w w' := ⟨h.os, h.tape, h.output, h.size, h.block⟩
theorem Kept.alloc_from {S : Nat → Prop} {w w' : World} {o : Obj} (h : Kept S (w.alloc o) w') : Kept S w w' :=
  ⟨h.os, h.tape, h.output, by have := h.size; rw [World.size_alloc] at this; omega, fun k hk hs => by
    rw [h.block k (by rw [World.size_alloc]; omega) hs, Below.heap_alloc w o k hk]⟩

/-- What is owned, in a world that holds the row as it was. -/
theorem ownsRow_keep {w w' : World} {e : TypeId} {size : Nat} {v : Value} {n : Nat} {xs : List Value} (h : w.ownsRow 0 e size v n xs) {S : Nat → Prop} (hk : Kept S w w') (hS : ∀ k, v.ownBlock = some k → ¬ S k) : w'.ownsRow 0 e size v n xs := by
  refine ⟨h.1, ?_⟩
  rcases h.2 with h0 | ⟨g, cap, cur, rfl, hb, hg, rest⟩
  · exact .inl h0
  · exact .inr ⟨g, cap, cur, rfl, hb, hk.at hg (hS g rfl), rest⟩
theorem ownsRow_lt {w : World} {e : TypeId} {size : Nat} {v : Value} {n : Nat} {xs : List Value} (h : w.ownsRow 0 e size v n xs) {k : Nat} (hk : v.ownBlock = some k) : k < w.heap.size := by
  rcases h.2 with ⟨rfl, _⟩ | ⟨g, cap, cur, rfl, hb, hg, rest⟩
  · simp [Value.ownBlock] at hk
  · simp [Value.ownBlock] at hk
    subst hk
    exact lt_of_block hg
theorem ownsRow_type {w : World} {e t : TypeId} {size : Nat} {v : Value} {n : Nat} {xs : List Value} {B : Array Value} {f : Nat × Nat} (h : w.ownsRow 0 e size v n xs) {k : Nat} (hk : w.heap[k]? = some (.cells B t f)) (ht : e ≠ t) : v.ownBlock ≠ some k := by
  intro he
  rcases h.2 with ⟨rfl, _⟩ | ⟨g, cap, cur, rfl, hb, hg, rest⟩
  · simp [Value.ownBlock] at he
  · simp [Value.ownBlock] at he
    subst he
    rw [hg] at hk
    simp at hk
    exact ht hk.2.1

/-- A slice whose elements (one cell each) read as xs. -/
def At (w : World) (ao : Option Addr) (xs : List Value) : Prop := ∀ (i : Nat) x, xs[i]? = some x → ∃ g off, ao = some ⟨g, off, Option.none⟩ ∧ w.cell? ⟨g, off + i, Option.none⟩ = some x

theorem lt_of_cell {w : World} {a : Addr} {v : Value} (hc : w.cell? a = some v) : a.block < w.heap.size := by
  rcases Nat.lt_or_ge a.block w.heap.size with h' | h'
  · exact h'
  · simp [World.cell?, Array.getElem?_eq_none h'] at hc
theorem At.below {w w' : World} {ao : Option Addr} {xs : List Value} (h : At w ao xs) (hb : Below w.heap.size w w') : At w' ao xs := fun i x hx => by
  obtain ⟨g, off, e, hc⟩ := h i x hx
  exact ⟨g, off, e, (hb.cell (lt_of_cell hc)).trans hc⟩
theorem At.kept {w w' : World} {ao : Option Addr} {xs : List Value} {S : Nat → Prop} (h : At w ao xs) (hk : Kept S w w') (hS : ∀ a, ao = some a → ¬ S a.block) : At w' ao xs := fun i x hx => by
  obtain ⟨g, off, e, hc⟩ := h i x hx
  exact ⟨g, off, e, hk.cell hc (hS ⟨g, off, Option.none⟩ e)⟩
/-- An owned row of one-cell elements, read. -/
theorem own_at {w : World} {e : TypeId} {v : Value} {n : Nat} {xs : List Value} (h : w.ownsRow 0 e 1 v n xs) : ∃ ao cap, v = .slice ao n cap ∧ n ≤ cap ∧ cap ≤ maxLen ∧ At w ao xs ∧ ∀ a, ao = some a → v.ownBlock = some a.block := by
  rcases h.2 with ⟨rfl, rfl⟩ | ⟨g, cap, cur, rfl, hb, hg, hnc, hcm, hsz, htk⟩
  · have hx : xs = [] := List.eq_nil_of_length_eq_zero (by simpa using h.1)
    subst hx
    exact ⟨Option.none, 0, rfl, Nat.le_refl _, Nat.zero_le _, fun i x hx => by simp at hx, fun a ha => by cases ha⟩
  · refine ⟨_, cap, rfl, hnc, hcm, fun i x hx => ⟨g, 0, rfl, ?_⟩, fun a ha => by cases ha; rfl⟩
    rw [cell_of hg, Nat.zero_add]
    rw [← htk, List.getElem?_take] at hx
    split at hx
    · simpa using hx
    · cases hx

end Go.Proofs.Qxb6626223a.Frame
