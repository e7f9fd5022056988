/-
  THE WALKS of the small functions (seat b6625896a).
-/
import Derived.Test.Qxb6625896aRows
import Derived.Test.Qxb6625896aPlain
import Derived.Test.Qxb6625896aFrame
import Derived.OpenShut
import Derived.ShutString
import Derived.ChangeOld
import Derived.Handy
import Derived.WalkSpells
import Derived.Deep.LoopGhost
import Derived.Deep.RegionWith
import Derived.Lib.SliceRun
namespace Go.Proofs.Qxb6625896a.Parts
open Go.ChangeShapes Go.WideShapes Go.ChangeAt Go.RowKit
open Go.Proofs.Qxb6625896a.Plain Go.Proofs.Qxb6625896a.Frame
set_option linter.unusedVariables false
set_option linter.unusedSimpArgs false

theorem ret_bool {a b : Bool} (h : a = b) : Ending.returned (.bool a) = .returned (.bool b) := by rw [h]
theorem ret_int {k : IntKind} {a b : Int} (h : a = b) : Ending.returned (.int k a) = .returned (.int k b) := by rw [h]

/-! ### zzDue -/
set_option maxHeartbeats 400000 in
theorem due_any (a inc : Int) (q l : Bool) (w : World) :
    Calls Try.prog 15 #[.agg #[.int .u64 a, .bool q, .bool l], .int .u64 inc] w fun e w' => e = .returned (.bool (ckDue inc ⟨a, q, l⟩)) ∧ Below w.heap.size w w' := by
  cases q
  · go_enter Try.func15, Try.ntmps15
    go_wp2
    go_ret
    exact ⟨rfl, (Below.refl _ _).alloc (Nat.le_refl _) _⟩
  · go_enter Try.func15, Try.ntmps15
    go_wp2
    go_ret
    exact ⟨rfl, (Below.refl _ _).alloc (Nat.le_refl _) _⟩

/-! ### readers of a check, of the slots -/
def chkObj (c : Chk) : Obj := .cells #[.int .u64 c.a, .bool c.q, .bool c.l] 50 (0, 0)
def slotObj (pb len cap : Nat) (late wait : Int) : Obj := .cells #[.slice (some ⟨pb, 0, Option.none⟩) len cap, .int .i64 late, .int .i64 wait] 47 (0, 0)

theorem chk_cells {w : World} {b : Nat} {c : Chk} (h : w.heap[b]? = some (chkObj c)) :
    w.cell? ⟨b, 0, Option.none⟩ = some (.int .u64 c.a) ∧ w.cell? ⟨b, 1, Option.none⟩ = some (.bool c.q) ∧ w.cell? ⟨b, 2, Option.none⟩ = some (.bool c.l) ∧ w.frozen? ⟨b, 2, Option.none⟩ = false := by
  unfold chkObj at h
  exact ⟨by rw [cell_of h]; rfl, by rw [cell_of h]; rfl, by rw [cell_of h]; rfl, free_of h _⟩
theorem slot_cells {w : World} {b pb len cap : Nat} {late wait : Int} (h : w.heap[b]? = some (slotObj pb len cap late wait)) :
    w.cell? ⟨b, 0, Option.none⟩ = some (.slice (some ⟨pb, 0, Option.none⟩) len cap) ∧ w.cell? ⟨b, 1, Option.none⟩ = some (.int .i64 late) ∧ w.cell? ⟨b, 2, Option.none⟩ = some (.int .i64 wait) ∧ w.frozen? ⟨b, 0, Option.none⟩ = false ∧ w.frozen? ⟨b, 1, Option.none⟩ = false := by
  unfold slotObj at h
  exact ⟨by rw [cell_of h]; rfl, by rw [cell_of h]; rfl, by rw [cell_of h]; rfl, free_of h _, free_of h _⟩

theorem outAfter_any (b : Nat) (c : Chk) (w : World) (h : w.heap[b]? = some (chkObj c)) :
    Calls Try.prog 13 #[.pointer (some ⟨b, 0, Option.none⟩)] w fun e w' => e = .returned (.int .u64 c.a) ∧ w' = w := by
  obtain ⟨c0, c1, c2, _⟩ := chk_cells h
  clear h
  go_enter Try.func13, Try.ntmps13
  go_wp2
  go_ret
  exact ⟨rfl, rfl⟩
theorem outQueried_any (b : Nat) (c : Chk) (w : World) (h : w.heap[b]? = some (chkObj c)) :
    Calls Try.prog 14 #[.pointer (some ⟨b, 0, Option.none⟩)] w fun e w' => e = .returned (.bool c.q) ∧ w' = w := by
  obtain ⟨c0, c1, c2, _⟩ := chk_cells h
  clear h
  go_enter Try.func14, Try.ntmps14
  go_wp2
  go_ret
  exact ⟨rfl, rfl⟩
theorem outLate_any (b : Nat) (c : Chk) (w : World) (h : w.heap[b]? = some (chkObj c)) :
    Calls Try.prog 16 #[.pointer (some ⟨b, 0, Option.none⟩)] w fun e w' => e = .returned (.bool c.l) ∧ w' = w := by
  obtain ⟨c0, c1, c2, _⟩ := chk_cells h
  clear h
  go_enter Try.func16, Try.ntmps16
  go_wp2
  go_ret
  exact ⟨rfl, rfl⟩
theorem late_any (b pb len cap : Nat) (late wait : Int) (w : World) (h : w.heap[b]? = some (slotObj pb len cap late wait)) :
    Calls Try.prog 10 #[.pointer (some ⟨b, 0, Option.none⟩)] w fun e w' => e = .returned (.int .i64 late) ∧ w' = w := by
  obtain ⟨c0, c1, c2, _, _⟩ := slot_cells h
  clear h
  go_enter Try.func10, Try.ntmps10
  go_wp2
  go_ret
  exact ⟨rfl, rfl⟩
theorem waiting_any (b pb len cap : Nat) (late wait : Int) (w : World) (h : w.heap[b]? = some (slotObj pb len cap late wait)) :
    Calls Try.prog 11 #[.pointer (some ⟨b, 0, Option.none⟩)] w fun e w' => e = .returned (.int .i64 wait) ∧ w' = w := by
  obtain ⟨c0, c1, c2, _, _⟩ := slot_cells h
  clear h
  go_enter Try.func11, Try.ntmps11
  go_wp2
  go_ret
  exact ⟨rfl, rfl⟩
theorem held_any (b pb len cap : Nat) (late wait : Int) (w : World) (h : w.heap[b]? = some (slotObj pb len cap late wait)) :
    Calls Try.prog 12 #[.pointer (some ⟨b, 0, Option.none⟩)] w fun e w' => e = .returned (.slice (some ⟨pb, 0, Option.none⟩) len cap) ∧ w' = w := by
  obtain ⟨c0, c1, c2, _, _⟩ := slot_cells h
  clear h
  go_enter Try.func12, Try.ntmps12
  go_wp2
  go_ret
  exact ⟨rfl, rfl⟩

/-! ### makers -/
theorem newChk_any (a : Int) (q l : Bool) (w : World) :
    Calls Try.prog 19 #[.int .u64 a, .bool q, .bool l] w fun e w' => e = .returned (.pointer (some ⟨w.heap.size, 0, Option.none⟩)) ∧ w' = w.alloc (chkObj ⟨a, q, l⟩) := by
  go_enter Try.func19, Try.ntmps19
  go_wp2
  go_ret
  exact ⟨rfl, rfl⟩
theorem newSlots_any (pb len cap : Nat) (late wait : Int) (w : World) :
    Calls Try.prog 8 #[.slice (some ⟨pb, 0, Option.none⟩) len cap, .int .i64 late, .int .i64 wait] w fun e w' => e = .returned (.pointer (some ⟨w.heap.size, 0, Option.none⟩)) ∧ w' = w.alloc (slotObj pb len cap late wait) := by
  go_enter Try.func8, Try.ntmps8
  go_wp2
  go_ret
  exact ⟨rfl, rfl⟩

/-! ### the closure of markLate: bi: the box of 'includes', bp: the box of 's' -/
theorem wrap_ck (inc a : Int) : decide (IntKind.u64.wrap (inc - a) < 2) = !dueN inc a := by
  unfold dueN
  rw [Bool.eq_iff_iff]
  simp
set_option maxHeartbeats 1000000 in
theorem del_keep (b sb bi bp pb len cap L : Nat) (c : Chk) (inc wait : Int) (w : World)
    (hb : w.heap[b]? = some (chkObj c)) (hs : w.heap[sb]? = some (slotObj pb len cap L wait))
    (hi : w.heap[bi]? = some (.cells #[.int .u64 inc] 23 (0, 0))) (hp : w.heap[bp]? = some (.cells #[.pointer (some ⟨sb, 0, Option.none⟩)] 29 (0, 0)))
    (hr : ckRet inc L c = false) :
    Calls Try.prog 22 #[.pointer (some ⟨b, 0, Option.none⟩), .pointer (some ⟨bi, 0, Option.none⟩), .pointer (some ⟨bp, 0, Option.none⟩)] w fun e w' => e = .returned (.bool false) ∧ ∃ n, w' = w.drewN n := by
  obtain ⟨c0, c1, c2, _⟩ := chk_cells hb
  obtain ⟨s0, s1, s2, _, _⟩ := slot_cells hs
  have i0 := cell_of_one hi
  have p0 := cell_of_one hp
  clear hb hs hi hp
  obtain ⟨a, q, l⟩ := c
  simp only at c0 c1 c2
  cases q
  · cases hd : dueN inc a
    · have hd' : decide (IntKind.u64.wrap (inc - a) < 2) = true := by rw [wrap_ck, hd]; rfl
      clear hd hr
      go_enter Try.func22, Try.ntmps22
      go_wp2
      go_quiet (fail)
      go_wp2
      go_ret
      exact ⟨rfl, _, rfl⟩
    · have hd' : decide (IntKind.u64.wrap (inc - a) < 2) = false := by rw [wrap_ck, hd]; rfl
      have hL : ((L : Int) == 15) = true := by
        simp only [ckRet, ckDue, hd] at hr
        simp at hr
        simp [hr]
      clear hd hr
      go_enter Try.func22, Try.ntmps22
      go_wp2
      go_quiet (fail)
      go_wp2
      go_ret
      exact ⟨rfl, _, rfl⟩
  · clear hr
    go_enter Try.func22, Try.ntmps22
    go_wp2
    go_quiet (fail)
    go_wp2
    go_ret
    exact ⟨rfl, _, rfl⟩

set_option maxHeartbeats 1000000 in
theorem del_ret (b sb bi bp pb len cap L : Nat) (c : Chk) (inc wait : Int) (w : World)
    (hb : w.heap[b]? = some (chkObj c)) (hs : w.heap[sb]? = some (slotObj pb len cap L wait))
    (hi : w.heap[bi]? = some (.cells #[.int .u64 inc] 23 (0, 0))) (hp : w.heap[bp]? = some (.cells #[.pointer (some ⟨sb, 0, Option.none⟩)] 29 (0, 0)))
    (hne : b ≠ sb) (hnp : b ≠ bp) (hL15 : L ≤ 15) (hr : ckRet inc L c = true) :
    Calls Try.prog 22 #[.pointer (some ⟨b, 0, Option.none⟩), .pointer (some ⟨bi, 0, Option.none⟩), .pointer (some ⟨bp, 0, Option.none⟩)] w fun e w' =>
      e = .returned (.bool true) ∧ ∃ n, w' = ((w.setCell ⟨b, 2, Option.none⟩ (.bool true)).setCell ⟨sb, 1, Option.none⟩ (.int .i64 (L + 1))).drewN n := by
  obtain ⟨c0, c1, c2, f2⟩ := chk_cells hb
  obtain ⟨s0, s1, s2, g0, g1⟩ := slot_cells hs
  have i0 := cell_of_one hi
  have p0 := cell_of_one hp
  clear hb hs hi hp
  obtain ⟨a, q, l⟩ := c
  simp only at c0 c1 c2
  simp only [ckRet, ckDue, Bool.and_eq_true, Bool.not_eq_true', decide_eq_true_eq] at hr
  obtain ⟨⟨rfl, hd⟩, hL⟩ := hr
  have hd' : decide (IntKind.u64.wrap (inc - a) < 2) = false := by rw [wrap_ck, hd]; rfl
  have hL' : ((L : Int) == 15) = false := beq_eq_false_iff_ne.2 (by omega)
  have t1 : (w.setCell ⟨b, 2, Option.none⟩ (.bool true)).cell? ⟨bp, 0, Option.none⟩ = some (.pointer (some ⟨sb, 0, Option.none⟩)) := by rw [cell_set_ne _ _ _ (Ne.symm hnp)]; exact p0
  have t2 : (w.setCell ⟨b, 2, Option.none⟩ (.bool true)).cell? ⟨sb, 1, Option.none⟩ = some (.int .i64 L) := by rw [cell_set_ne _ _ _ (Ne.symm hne)]; exact s1
  clear hd hL
  go_enter Try.func22, Try.ntmps22
  go_wp2
  go_quiet (fail)
  go_wp2
  go_ret
  exact ⟨rfl, _, rfl⟩

end Go.Proofs.Qxb6625896a.Parts
