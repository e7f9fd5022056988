/-
  LAW TWO: what lies in memory: three lots, one behind the other.
-/
import Derived.Test.Qxb6625896aTwoPlain
import Derived.Test.Qxb6625896aOneHeap
namespace Go.Proofs.Qxb6625896a.Two
open Go.RowKit
open Go.Proofs.Qxb6625896a.Plain Go.Proofs.Qxb6625896a.Frame Go.Proofs.Qxb6625896a.Parts Go.Proofs.Qxb6625896a.Heap Go.Proofs.Qxb6625896a.Delete Go.Proofs.Qxb6625896a.Mark Go.Proofs.Qxb6625896a.Build Go.Proofs.Qxb6625896a.Plain2 Go.Proofs.Qxb6625896a.Idx
open Go.Proofs.Qxb6625896a.One (Base Base.kept)
set_option linter.unusedVariables false
set_option linter.unusedSimpArgs false

theorem lot_first {w1 w2 : World} {ob pb n : Nat} {wait : Int} {L : Nat} {bs : List Nat} {cs : List Chk} (h : Built w1 ob pb bs n cs w2) (hn : cs.length = n) (hmax : n ≤ 65536) (hL : L ≤ 15) :
    Lot (w2.alloc (slotObj pb n n L wait)) w2.heap.size pb n wait L bs cs := by
  obtain ⟨A2, b1, b2, b3⟩ := h.arr2
  have hlen := h.objs.length
  refine ⟨h.objs.congr fun b hb => ?_, h.nodup, ?_, ⟨A2, block_old _ b1, b2, b3⟩, by omega, hmax, hL⟩
  · obtain ⟨c, hc⟩ := h.objs.mem b hb
    rw [block_old _ hc, hc]
  · rw [block_new, hlen, hn]

theorem base_first {w0 w1 w2 w4 : World} {n : Nat} {inc wait : Int} {L : Nat} {bs : List Nat} {cs : List Chk} (h1 : Below w0.heap.size w0 w1) (h : Built w1 w1.heap.size (w1.heap.size + 1) bs n cs w2) (hn : cs.length = n) (hmax : n ≤ 65536) (hL : L ≤ 15)
    (hr : Ran (w2.alloc (slotObj (w1.heap.size + 1) n n L wait)) w2.heap.size (w1.heap.size + 1) n inc wait L bs cs w4) :
    Base w0 w1.heap.size (w1.heap.size + 1) w2.heap.size w4.heap.size n inc wait L bs cs w4 := by
  have hlot := lot_first (wait := wait) h hn hmax hL
  obtain ⟨A1, a1, a2, a3⟩ := h.arr1
  obtain ⟨A2, b1, b2, b3⟩ := h.arr2
  have s1 := h1.size
  have s2 := h.below.size
  have s4 := hr.kept.size
  rw [World.size_alloc] at s4
  have l1 := lt_of_block a1
  have l2 := lt_of_block b1
  have hob : ¬ own w2.heap.size (w1.heap.size + 1) bs w1.heap.size := by
    rintro (e | e | e)
    · omega
    · omega
    · obtain ⟨c, hc⟩ := h.objs.mem _ e
      exact ne_of hc a1 (by decide) rfl
  have hlt : ∀ k, k = w1.heap.size ∨ k = w1.heap.size + 1 ∨ k = w2.heap.size ∨ k ∈ bs → w0.heap.size ≤ k ∧ k < w4.heap.size := by
    rintro k (rfl | rfl | rfl | hk)
    · omega
    · omega
    · omega
    · have := h.new k hk
      obtain ⟨c, hc⟩ := h.objs.mem _ hk
      have := lt_of_block hc
      omega
  refine ⟨?_, ⟨A1, hr.kept.at (block_old _ a1) hob, a2, a3⟩, hr.arr, hr.objs, hr.slot, h.nodup, hlt, by omega⟩
  refine (h1.trans (h.below.mono s1)).trans (((Below.refl _ _).alloc (by omega) _).trans (hr.kept.below (by rw [World.size_alloc]; omega) ?_))
  rintro k (rfl | rfl | hk)
  · omega
  · omega
  · have := h.new k hk
    omega


/-- A cut of the slice that came in. -/
theorem held_take {w : World} {ao : Option Addr} {cs : List Chk} (h : Held w ao cs) (cut : Nat) : Held w ao (cs.take cut) := fun i c hc => by
  have hi := (List.getElem?_eq_some_iff.1 hc).1
  rw [List.length_take] at hi
  rw [List.getElem?_take_of_lt (by omega)] at hc
  exact h i c hc
theorem held_drop {w : World} {ao : Option Addr} {cs : List Chk} (h : Held w ao cs) (cut cap : Nat) (hc : cs.length ≤ cap) : Held w (if cap = cut then ao else ao.map (·.add (cut * 3))) (cs.drop cut) := fun i c hi => by
  rw [List.getElem?_drop] at hi
  have hl := (List.getElem?_eq_some_iff.1 hi).1
  obtain ⟨b, off, rfl, h0, h1, h2⟩ := h (cut + i) c hi
  rw [if_neg (by omega)]
  have e : off + (cut + i) * 3 = off + cut * 3 + i * 3 := by omega
  rw [e] at h0 h1 h2
  exact ⟨b, off + cut * 3, by simp [Addr.add_lit], h0, h1, h2⟩

theorem size38 : ∀ w : World, (sizeOf 38).run Try.prog w = .ok 3 w := fun _ => by kernel_rfl
theorem slice_from (ao : Option Addr) (n cap cut : Nat) (h : cut ≤ n) (w : World) :
    (Instr.slice 22 (.slice ao n cap) (some (.int .i64 (cut : Int))) Option.none Option.none).run Try.prog w = .ok (.slice (if cap = cut then ao else ao.map (·.add (cut * 3))) (n - cut) (cap - cut)) w := by
  have he : Try.prog.elem 22 = 38 := by kernel_rfl
  rw [run_slice_l w 22 ao n cap (by rw [he]; exact Try.underlying22) .i64 (cut : Int) (by omega) (by omega), he, size38]
  simp [Result.andThen, sliced]

/-- What the law reads of a lot, in a later world. -/
theorem Base.later {w0 : World} {ob pb sb n : Nat} {inc wait : Int} {L : Nat} {bs : List Nat} {cs : List Chk} {w w' : World} (h : Base w0 ob pb sb w.heap.size n inc wait L bs cs w) (hb : Below w.heap.size w w') : Base w0 ob pb sb w.heap.size n inc wait L bs cs w' :=
  Base.kept h ⟨hb.os, hb.tape, hb.output, hb.size, fun k hk _ => hb.block k hk⟩


theorem base_later_kept {w0 : World} {ob pb sb n : Nat} {inc wait : Int} {L : Nat} {bs : List Nat} {cs : List Chk} {w w' : World} (h : Base w0 ob pb sb w.heap.size n inc wait L bs cs w) (hb : Below w.heap.size w w') : Kept (fun k => w0.heap.size ≤ k) w w' :=
  ⟨hb.os, hb.tape, hb.output, hb.size, fun k hk _ => hb.block k hk⟩

end Go.Proofs.Qxb6625896a.Two
