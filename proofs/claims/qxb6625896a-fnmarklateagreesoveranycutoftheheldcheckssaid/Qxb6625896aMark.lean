/-
  THE WALKS of markLate and ZZmarkLate.
-/
import Derived.Test.Qxb6625896aDelete
namespace Go.Proofs.Qxb6625896a.Mark
open Go.RowKit
open Go.Proofs.Qxb6625896a.Plain Go.Proofs.Qxb6625896a.Frame Go.Proofs.Qxb6625896a.Parts Go.Proofs.Qxb6625896a.Heap Go.Proofs.Qxb6625896a.Delete
set_option linter.unusedVariables false
set_option linter.unusedSimpArgs false

/-- Slots over an array of pointers to the blocks ks, which hold the checks cs. -/
structure Lot (w : World) (sb pb cap : Nat) (wait : Int) (L : Nat) (ks : List Nat) (cs : List Chk) : Prop where
  objs : Objs w ks cs
  nodup : ks.Nodup
  slot : w.heap[sb]? = some (slotObj pb ks.length cap L wait)
  arr : ∃ A, w.heap[pb]? = some (.cells A 35 (0, 0)) ∧ A.size = cap ∧ RowA A 0 ks
  le : ks.length ≤ cap
  max : cap ≤ 65536
  l15 : L ≤ 15

/-- What markLate leaves. -/
structure Ran (w : World) (sb pb cap : Nat) (inc wait : Int) (L : Nat) (ks : List Nat) (cs : List Chk) (w' : World) : Prop where
  objs : Objs w' ks (ckMark inc L cs)
  slot : w'.heap[sb]? = some (slotObj pb (ckKeep inc L cs ks).length cap ((L + ckN inc L cs : Nat) : Int) wait)
  arr : ∃ A, w'.heap[pb]? = some (.cells A 35 (0, 0)) ∧ A.size = cap ∧ RowA A 0 (ckKeep inc L cs ks)
  kept : Kept (own sb pb ks) w w'

theorem st_boxed {w W : World} {sb pb cap : Nat} {inc wait : Int} {L : Nat} {ks : List Nat} {cs : List Chk} (h : Lot w sb pb cap wait L ks cs)
    (hW : W.heap = ((w.alloc (.cells #[.pointer (some ⟨sb, 0, Option.none⟩)] 29)).alloc (.cells #[.int .u64 inc] 23)).heap) :
    St W sb pb (w.heap.size + 1) w.heap.size ks.length cap inc wait L ks cs := by
  have key : ∀ k x, w.heap[k]? = some x → W.heap[k]? = some x := fun k x hk => by rw [hW]; exact block_old _ (block_old _ hk)
  refine ⟨h.objs.congr fun b hb => ?_, h.nodup, key _ _ h.slot, ?_, ?_⟩
  · obtain ⟨c, hc⟩ := h.objs.mem b hb
    rw [key _ _ hc, hc]
  · rw [hW]
    have := block_new (w.alloc (.cells #[.pointer (some ⟨sb, 0, Option.none⟩)] 29)) (.cells #[.int .u64 inc] 23)
    rw [World.size_alloc] at this
    exact this
  · rw [hW]
    exact block_old _ (block_new _ _)

theorem ran_of {w W W' : World} {sb pb cap : Nat} {inc wait : Int} {L : Nat} {ks : List Nat} {cs : List Chk} (h : Lot w sb pb cap wait L ks cs)
    (hk : Kept (own sb pb ks) w W) (hd : Done W sb pb (w.heap.size + 1) w.heap.size ks.length cap inc wait L ks cs W') :
    Ran w sb pb cap inc wait L ks cs (W'.setCell ⟨sb, 0, Option.none⟩ (.slice (some ⟨pb, 0, Option.none⟩) (ckKeep inc L cs ks).length cap)) := by
  obtain ⟨A, h1, h2, h3⟩ := hd.arr
  have nps : pb ≠ sb := (ne_of hd.st.slot h1 (by decide)).symm
  have hsb : sb ∉ ks := hd.st.not_mem hd.st.slot (by decide)
  refine ⟨?_, ?_, ⟨A, ?_, h2, h3⟩, ?_⟩
  · exact hd.st.objs.congr fun b hb => block_set_ne _ _ (fun e => hsb (e ▸ hb))
  · have := block_set hd.st.slot 0 (.slice (some ⟨pb, 0, Option.none⟩) (ckKeep inc L cs ks).length cap)
    exact this
  · exact (block_set_ne _ _ nps).trans h1
  · exact (hk.trans hd.kept).setCell (Or.inl (Or.inl rfl)) _

set_option maxHeartbeats 2000000 in
theorem mark_any (sb pb cap L : Nat) (inc wait : Int) (ks : List Nat) (cs : List Chk) (w : World) (h : Lot w sb pb cap wait L ks cs) :
    Calls Try.prog 20 #[.pointer (some ⟨sb, 0, Option.none⟩), .int .u64 inc] w fun e w' => e = .returned (.tuple #[]) ∧ Ran w sb pb cap inc wait L ks cs w' := by
  have hmf : ∀ (fn : Fn) (first cap : Array Value) (w : World), (Instr.makeFunc fn first cap).run Try.prog w = .ok (.func fn first cap) w := fun _ _ _ _ => rfl
  have H : Hid (Lot w sb pb cap wait L ks cs) := h
  obtain ⟨s0, s1, s2, g0, g1⟩ := slot_cells h.slot
  have hsz : sb < w.heap.size := lt_of_block h.slot
  have hA := h.arr
  obtain ⟨A, hA1, hA2, hA3⟩ := hA
  have HA1 : Hid (∀ W : World, W.heap = ((w.alloc (.cells #[.pointer (some ⟨sb, 0, Option.none⟩)] 29)).alloc (.cells #[.int .u64 inc] 23)).heap → W.heap[pb]? = some (.cells A 35 (0, 0))) := fun W hW => by
    rw [hW]; exact block_old _ (block_old _ hA1)
  have HA2 : Hid (A.size = cap) := hA2
  have HA3 : Hid (RowA A 0 ks) := hA3
  have hmax := h.max
  have hle := h.le
  have hl15 := h.l15
  clear h hA1 hA2 hA3
  go_enter Try.func20, Try.ntmps20
  go_wp2
  go_region_with (go_at_call 21; refine (delete_any sb pb (w.heap.size + 1) w.heap.size ks.length cap L inc wait ks cs A _ ?_ ?_ HA2.out HA3.out rfl hmax hle hl15).mono ?_; exact st_boxed H.out rfl; exact HA1.out _ rfl; rintro e w' ⟨rfl, hd⟩; obtain ⟨t0, t1, t2, f0, f1⟩ := slot_cells hd.st.slot; have tp := cell_of_one hd.st.hp)
  all_goals
    go_wp2
    go_end0
    exact ⟨rfl, ran_of H.out (((Kept.refl _ _).alloc _).alloc _).drew hd⟩

theorem zmark_any (sb pb cap L : Nat) (inc wait : Int) (ks : List Nat) (cs : List Chk) (w : World) (h : Lot w sb pb cap wait L ks cs) :
    Calls Try.prog 9 #[.pointer (some ⟨sb, 0, Option.none⟩), .int .u64 inc] w fun e w' => e = .returned (.tuple #[]) ∧ Ran w sb pb cap inc wait L ks cs w' := by
  have H : Hid (Lot w sb pb cap wait L ks cs) := h
  clear h
  go_enter Try.func9, Try.ntmps9
  go_wp2_with (go_at_call 20; refine (mark_any sb pb cap L inc wait ks cs _ H.out).mono ?_; rintro e w' ⟨rfl, hr⟩)
  go_end0
  exact ⟨rfl, hr⟩

end Go.Proofs.Qxb6625896a.Mark
