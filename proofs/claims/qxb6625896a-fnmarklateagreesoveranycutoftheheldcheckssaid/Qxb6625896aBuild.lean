/-
  THE WALKS of zzRetireCount, zzBuild and of the bounds.
-/
import Derived.Test.Qxb6625896aMark
import Derived.Deep.OwnRows
namespace Go.Proofs.Qxb6625896a.Build
open Go.RowKit
open Go.Proofs.Qxb6625896a.Plain Go.Proofs.Qxb6625896a.Frame Go.Proofs.Qxb6625896a.Parts Go.Proofs.Qxb6625896a.Heap Go.Proofs.Qxb6625896a.Delete Go.Proofs.Qxb6625896a.Mark
set_option linter.unusedVariables false
set_option linter.unusedSimpArgs false

/-- The slice (ao, len) reads as the checks cs. -/
def Held (w : World) (ao : Option Addr) (cs : List Chk) : Prop :=
  ∀ i c, cs[i]? = some c → ∃ b off, ao = some ⟨b, off, Option.none⟩ ∧ w.cell? ⟨b, off + i * 3, Option.none⟩ = some (.int .u64 c.a) ∧ w.cell? ⟨b, off + i * 3 + 1, Option.none⟩ = some (.bool c.q) ∧ w.cell? ⟨b, off + i * 3 + 2, Option.none⟩ = some (.bool c.l)

theorem lt_of_cell {w : World} {a : Addr} {v : Value} (hc : w.cell? a = some v) : a.block < w.heap.size := by
  rcases Nat.lt_or_ge a.block w.heap.size with h' | h'
  · exact h'
  · simp [World.cell?, Array.getElem?_eq_none h'] at hc

theorem Held.below {w w' : World} {ao : Option Addr} {cs : List Chk} (h : Held w ao cs) (hb : Below w.heap.size w w') : Held w' ao cs := fun i c hc => by
  obtain ⟨b, off, e, h0, h1, h2⟩ := h i c hc
  have hlt : b < w.heap.size := lt_of_cell h0
  exact ⟨b, off, e, (hb.cell (by exact hlt)).trans h0, (hb.cell (by exact hlt)).trans h1, (hb.cell (by exact hlt)).trans h2⟩

theorem bytes1_any (ao : Option Addr) (len cap : Nat) (late wait inc : Int) (w : World) (hmax : len ≤ maxLen) :
    Calls Try.prog 5 #[.slice ao len cap, .int .i64 late, .int .i64 wait, .int .u64 inc] w fun e w' => e = .returned (.bool (decide (len ≤ 1048576))) ∧ w' = w := by
  unfold maxLen at hmax
  by_cases h : (1048576 : Int) < (len : Int)
  · have e : decide (len ≤ 1048576) = false := by simp; omega
    go_enter Try.func5, Try.ntmps5
    go_wp2
    go_ret
    exact ⟨ret_bool (by rw [e]), rfl⟩
  · have e : decide (len ≤ 1048576) = true := by simp; omega
    go_enter Try.func5, Try.ntmps5
    go_wp2
    go_ret
    exact ⟨rfl, rfl⟩

theorem bytes2_any (ao : Option Addr) (len cap : Nat) (cut late wait inc : Int) (w : World) (hmax : len ≤ maxLen) :
    Calls Try.prog 17 #[.slice ao len cap, .int .i64 cut, .int .i64 late, .int .i64 wait, .int .u64 inc] w fun e w' => e = .returned (.bool (decide (len ≤ 1048576))) ∧ w' = w := by
  unfold maxLen at hmax
  by_cases h : (1048576 : Int) < (len : Int)
  · have e : decide (len ≤ 1048576) = false := by simp; omega
    go_enter Try.func17, Try.ntmps17
    go_wp2
    go_ret
    exact ⟨ret_bool (by rw [e]), rfl⟩
  · have e : decide (len ≤ 1048576) = true := by simp; omega
    go_enter Try.func17, Try.ntmps17
    go_wp2
    go_ret
    exact ⟨rfl, rfl⟩

set_option maxHeartbeats 1000000 in
theorem count_any (ao : Option Addr) (len cap L : Nat) (inc : Int) (cs : List Chk) (w : World) (hh : Held w ao cs) (hlen : cs.length = len) (hmax : len ≤ 65536) (hL : L ≤ 15) :
    Calls Try.prog 6 #[.slice ao len cap, .int .i64 L, .int .u64 inc] w fun e w' => e = .returned (.int .i64 (ckN inc L cs)) ∧ Below w.heap.size w w' := by
  have HH : Hid (Held w ao cs) := hh
  have HL : Hid (cs.length = len) := hlen
  clear hh hlen
  go_enter Try.func6, Try.ntmps6
  go_wp2
  go_loopw [7, 8] (fun d i wr => ∃ (k n : Nat), k ≤ len ∧ n ≤ k ∧ i = .int .i64 k ∧ d = .int .i64 n ∧ Hid (n = ckDues inc (cs.take k)) ∧ Below w.heap.size w wr) (fun _ i _ => len - (intOf i).toNat)
  case atStart => exact ⟨0, 0, Nat.zero_le _, Nat.le_refl _, rfl, rfl, rfl, Below.refl _ _⟩
  case round =>
    obtain ⟨k, n, hk, hn, rfl, rfl, HN, hb⟩ := hrel
    by_cases hlt : k < len
    · obtain ⟨c, hc⟩ : ∃ c, cs[k]? = some c := ⟨_, List.getElem?_eq_getElem (by rw [HL.out]; exact hlt)⟩
      obtain ⟨b, off, rfl, h0, h1, h2⟩ := HH.out.below hb k c hc
      have HS : Hid (ckDues inc (cs.take (k + 1)) = n + if ckDue inc c = true then 1 else 0) := by
        show ckDues inc _ = _
        rw [List.take_add_one, hc, HN.out, ckDues, List.countP_append]
        simp [ckDues, List.countP_cons]
      clear hc HN
      obtain ⟨ca, cq, cl⟩ := c
      simp only at h0 h1 h2
      cases hd : ckDue inc ⟨ca, cq, cl⟩
      · go_wp2_with (go_at_call 15; refine (due_any ca inc cq cl _).mono ?_; rintro e w' ⟨rfl, hb2⟩)
        go_roundw
        case rel => exact ⟨k + 1, n, by omega, by omega, by go_num, rfl, (by rw [HS.out, hd]; rfl : n = ckDues inc (cs.take (k + 1))), hb.trans (hb2.mono hb.size)⟩
        case measure => simp [intOf]; omega
      · go_wp2_with (go_at_call 15; refine (due_any ca inc cq cl _).mono ?_; rintro e w' ⟨rfl, hb2⟩)
        go_roundw
        case rel => exact ⟨k + 1, n + 1, by omega, by omega, by go_num, by go_num, (by rw [HS.out, hd]; rfl : n + 1 = ckDues inc (cs.take (k + 1))), hb.trans (hb2.mono hb.size)⟩
        case measure => simp [intOf]; omega
    · have HE : Hid (ckN inc L cs = min n (15 - L)) := by
        show ckN inc L cs = _
        rw [ckN_eq inc cs L hL, HN.out, List.take_of_length_le (by rw [HL.out]; omega)]
      clear HN
      by_cases hm : (15 : Int) - (L : Int) < (n : Int)
      · go_wp2
        go_ret
        exact ⟨ret_int (by rw [HE.out]; omega), hb⟩
      · go_wp2
        go_ret
        exact ⟨ret_int (by rw [HE.out]; omega), hb⟩

/-! ### zzBuild -/
theorem info35 : (Try.prog.info? 35).map (fun i => (i.zero, i.size, i.bytes)) = some (some (.pointer Option.none), 1, 8) := by kernel_rfl

/-- What zzBuild lays: two arrays of pointers to the same new checks. -/
structure Built (w : World) (ob pb : Nat) (bs : List Nat) (len : Nat) (cs : List Chk) (w' : World) : Prop where
  below : Below w.heap.size w w'
  arr1 : ∃ A, w'.heap[ob]? = some (.cells A 35 (0, 0)) ∧ A.size = len ∧ RowA A 0 bs
  arr2 : ∃ A, w'.heap[pb]? = some (.cells A 35 (0, 0)) ∧ A.size = len ∧ RowA A 0 bs
  objs : Objs w' bs cs
  nodup : bs.Nodup
  new : ∀ b ∈ bs, w.heap.size ≤ b

theorem Built.step {w wr : World} {bs : List Nat} {len : Nat} {cs : List Chk} {c : Chk} (h : Built w w.heap.size (w.heap.size + 1) bs len cs wr) (hlt : bs.length < len) :
    Built w w.heap.size (w.heap.size + 1) (bs ++ [wr.heap.size]) len (cs ++ [c]) (((wr.alloc (chkObj c)).setCell ⟨w.heap.size, bs.length, Option.none⟩ (ptr wr.heap.size)).setCell ⟨w.heap.size + 1, bs.length, Option.none⟩ (ptr wr.heap.size)) := by
  obtain ⟨A1, a1, a2, a3⟩ := h.arr1
  obtain ⟨A2, b1, b2, b3⟩ := h.arr2
  have l1 := lt_of_block a1
  have l2 := lt_of_block b1
  have hlb : ∀ b ∈ bs, b < wr.heap.size := fun b hb => by obtain ⟨c, hc⟩ := h.objs.mem b hb; exact lt_of_block hc
  have key : ∀ k, k ≠ w.heap.size → k ≠ w.heap.size + 1 → (((wr.alloc (chkObj c)).setCell ⟨w.heap.size, bs.length, Option.none⟩ (ptr wr.heap.size)).setCell ⟨w.heap.size + 1, bs.length, Option.none⟩ (ptr wr.heap.size)).heap[k]? = (wr.alloc (chkObj c)).heap[k]? := fun k k1 k2 => by rw [block_set_ne _ _ k2, block_set_ne _ _ k1]
  have nb : ∀ b ∈ bs, b ≠ w.heap.size ∧ b ≠ w.heap.size + 1 := fun b hb => by
    obtain ⟨c, hc⟩ := h.objs.mem b hb
    exact ⟨ne_of hc a1 (by decide), ne_of hc b1 (by decide)⟩
  refine ⟨((h.below.alloc h.below.size _).setCell (by exact Nat.le_refl _) _).setCell (by show _ ≤ w.heap.size + 1; omega) _, ⟨A1.setIfInBounds bs.length (ptr wr.heap.size), ?_, by simp [a2], ?_⟩, ⟨A2.setIfInBounds bs.length (ptr wr.heap.size), ?_, by simp [b2], ?_⟩, ?_, ?_, ?_⟩
  · rw [block_set_ne _ _ (by omega), block_set (block_old _ a1)]
  · have := a3.snoc (b := wr.heap.size) (by omega)
    rwa [Nat.zero_add] at this
  · rw [block_set]
    rw [block_set_ne _ _ (by omega)]
    exact block_old _ b1
  · have := b3.snoc (b := wr.heap.size) (by omega)
    rwa [Nat.zero_add] at this
  · refine (h.objs.congr fun b hb => ?_).append ⟨?_, trivial⟩
    · rw [key b (nb b hb).1 (nb b hb).2, Below.heap_alloc wr _ b (hlb b hb)]
    · rw [key _ (by omega) (by omega)]
      exact block_new _ _
  · rw [List.nodup_append]
    refine ⟨h.nodup, by simp, fun x hx y hy e => ?_⟩
    simp at hy
    have := hlb x hx
    omega
  · intro b hb
    rcases List.mem_append.1 hb with hb | hb
    · exact h.new b hb
    · simp at hb
      have := h.below.size
      omega

theorem Built.step2 {w wr : World} {bs : List Nat} {len : Nat} {cs : List Chk} (c : Chk) (h : Built w w.heap.size (w.heap.size + 1) bs len cs wr) (hlt : bs.length < len) :
    Built w w.heap.size (w.heap.size + 1) (bs ++ [wr.heap.size]) len (cs ++ [c]) (((wr.setCell ⟨w.heap.size, bs.length, Option.none⟩ (ptr wr.heap.size)).setCell ⟨w.heap.size + 1, bs.length, Option.none⟩ (ptr wr.heap.size)).alloc (chkObj c)) := by
  have := h.step (c := c) hlt
  obtain ⟨A1, a1, _, _⟩ := h.arr1
  obtain ⟨A2, b1, _, _⟩ := h.arr2
  rw [World.setCell_alloc_past _ _ _ _ (lt_of_block a1), World.setCell_alloc_past _ _ _ _ (by rw [World.size_setCell]; exact lt_of_block b1)] at this
  exact this

theorem Built.drew {w wr : World} {ob pb : Nat} {bs : List Nat} {len : Nat} {cs : List Chk} (h : Built w ob pb bs len cs wr) : Built w ob pb bs len cs wr.drew :=
  ⟨h.below.drew, h.arr1, h.arr2, h.objs.congr fun _ _ => rfl, h.nodup, h.new⟩

theorem built_nil (w : World) (len : Nat) : Built w w.heap.size (w.heap.size + 1) [] len [] ((w.alloc (.cells (madeCells #[.pointer Option.none] len) 35)).alloc (.cells (madeCells #[.pointer Option.none] len) 35)) := by
  refine ⟨((Below.refl _ _).alloc (Nat.le_refl _) _).alloc (by simp) _, ⟨_, block_old _ (block_new _ _), size_madeCells _ _, fun i b hb => by simp at hb⟩, ⟨madeCells #[.pointer Option.none] len, ?_, size_madeCells _ _, fun i b hb => by simp at hb⟩, trivial, by simp, by simp⟩
  have := block_new (w.alloc (.cells (madeCells #[.pointer Option.none] len) 35)) (.cells (madeCells #[.pointer Option.none] len) 35)
  rwa [World.size_alloc] at this

set_option maxHeartbeats 2000000 in
theorem build_any (ao : Option Addr) (len cap : Nat) (cs : List Chk) (w : World) (hh : Held w ao cs) (hlen : cs.length = len) (hmax : len ≤ 65536) :
    Calls Try.prog 7 #[.slice ao len cap] w fun e w' => e = .returned (.tuple #[.slice (some ⟨w.heap.size, 0, Option.none⟩) len len, .slice (some ⟨w.heap.size + 1, 0, Option.none⟩) len len]) ∧ ∃ bs, Built w w.heap.size (w.heap.size + 1) bs len cs w' := by
  have HH : Hid (Held w ao cs) := hh
  have HL : Hid (cs.length = len) := hlen
  clear hh hlen
  have hmk := run_make_row' (P := Try.prog) 26 35 (.pointer Option.none) 8 Try.underlying26 info35 rfl .i64 .i64 len (by omega) (by omega)
  go_enter Try.func7, Try.ntmps7
  go_wp2
  clear hmk
  go_loopw [7] (fun i wr => ∃ (k : Nat) (bs : List Nat), k ≤ len ∧ bs.length = k ∧ i = .int .i64 k ∧ Hid (Built w w.heap.size (w.heap.size + 1) bs len (cs.take k) wr)) (fun i _ => len - (intOf i).toNat)
  case atStart => exact ⟨0, [], Nat.zero_le _, rfl, rfl, built_nil w len⟩
  case round =>
    obtain ⟨k, bs, hk, rfl, rfl, HB⟩ := hrel
    by_cases hlt : bs.length < len
    · obtain ⟨c, hc⟩ : ∃ c, cs[bs.length]? = some c := ⟨_, List.getElem?_eq_getElem (by rw [HL.out]; exact hlt)⟩
      obtain ⟨b, off, rfl, h0, h1, h2⟩ := HH.out.below HB.out.below bs.length c hc
      have HT : Hid (cs.take (bs.length + 1) = cs.take bs.length ++ [c]) := by
        show List.take _ _ = _
        rw [List.take_add_one, hc]; rfl
      clear hc
      obtain ⟨ca, cq, cl⟩ := c
      simp only at h0 h1 h2
      obtain ⟨A1, a1, a2, a3⟩ := HB.out.arr1
      obtain ⟨A2, b1, b2, b3⟩ := HB.out.arr2
      have l1 := lt_of_block a1
      have l2 := lt_of_block b1
      have q1 : ∃ v, wr.cell? ⟨w.heap.size, bs.length, Option.none⟩ = some v := by
        rw [cell_of a1]; exact ⟨_, Array.getElem?_eq_getElem (by omega)⟩
      have q2 : ∃ v, wr.cell? ⟨w.heap.size + 1, bs.length, Option.none⟩ = some v := by
        rw [cell_of b1]; exact ⟨_, Array.getElem?_eq_getElem (by omega)⟩
      obtain ⟨v1, q1⟩ := q1
      obtain ⟨v2, q2⟩ := q2
      have f1 := free_of a1 bs.length
      have f2 := free_of b1 bs.length
      clear a1 a2 a3 b1 b2 b3
      go_wp2
      go_region_with (go_at_call 19; refine (newChk_any _ _ _ _).mono ?_; rintro e w' ⟨rfl, rfl⟩)
      all_goals
        go_wp2
        go_roundw
        case rel => exact ⟨bs.length + 1, bs ++ [wr.heap.size], by omega, by simp, by go_num, (by rw [HT.out]; exact (HB.out.step2 ⟨ca, cq, cl⟩ (by omega)).drew : Built w w.heap.size (w.heap.size + 1) (bs ++ [wr.heap.size]) len (cs.take (bs.length + 1)) _)⟩
        case measure => simp [intOf]; omega
    · have HE : Hid (cs.take bs.length = cs) := by
        show List.take _ _ = _
        rw [List.take_of_length_le (by rw [HL.out]; omega)]
      go_wp2
      go_ret2
      exact ⟨rfl, bs, by have := HB.out; rw [HE.out] at this; exact this⟩

end Go.Proofs.Qxb6625896a.Build
