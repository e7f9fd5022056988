/-
  THE WALK of zzToProject.
-/
import Derived.Test.Qxb6626223aAgents
import Derived.BigRegion
import Derived.Deep.OwnRows
namespace Go.Proofs.Qxb6626223a.ToProj
open Go.RowKit
open Go.Proofs.Qxb6626223a.Tarjan (upd upd_same upd_other)
open Go.Proofs.Qxb6626223a.Frame Go.Proofs.Qxb6626223a.Agents
set_option linter.unusedVariables false
set_option linter.unusedSimpArgs false

theorem info32 : (Try.prog.info? 32).map (fun i => (i.zero.map Value.cells, i.size, i.bytes)) = some (some #[.string ByteArray.empty, .string ByteArray.empty, .string ByteArray.empty, .string ByteArray.empty], 4, 64) := by kernel_rfl

def zero4 (n : Nat) : Array Value := madeCells #[.string ByteArray.empty, .string ByteArray.empty, .string ByteArray.empty, .string ByteArray.empty] (n * 4)

theorem run_make4 (n : Nat) (hn : n ≤ 65536) (w : World) : (Instr.makeSlice 28 (.int .i64 (n : Int)) (.int .i64 (n : Int))).run Try.prog w = .ok (.slice (some ⟨w.heap.size, 0, Option.none⟩) n n) (w.alloc (.cells (zero4 n) 32)) := by
  obtain ⟨i, hi, hzz⟩ := Option.map_eq_some_iff.1 info32
  simp only [Prod.mk.injEq, Option.map_eq_some_iff] at hzz
  obtain ⟨⟨z, hz, hzc⟩, hs, hb⟩ := hzz
  have hr := run_make (P := Try.prog) w 28 32 i z Try.underlying28 hi hz .i64 .i64 n n (by omega) (Int.le_refl _) (by rw [hb]; omega) (by omega)
  simp only [Int.toNat_natCast, hs, hzc] at hr
  exact hr

/-- A row of the call's own, of m conflicts, some of them laid. -/
def Laid (wr : World) (xb m : Nat) (f : Nat → Option Q4) : Prop :=
  ∃ X, wr.heap[xb]? = some (.cells X 32 (0, 0)) ∧ X.size = m * 4 ∧ ∀ (j : Nat) c, j < m → f j = some c → X[j * 4]? = some (.string c.e) ∧ X[j * 4 + 1]? = some (.string c.l) ∧ X[j * 4 + 2]? = some (.string c.n) ∧ X[j * 4 + 3]? = some (.string c.k)

theorem Laid.start (w : World) (n : Nat) : Laid (w.alloc (.cells (zero4 n) 32)) w.heap.size n fun _ => Option.none := ⟨_, block_new _ _, size_madeCells _ _, fun j c _ h => by cases h⟩

/-- The four cells of a conflict, written. -/
def set4 (w : World) (xb o : Nat) (c : Q4) : World := (((w.setCell ⟨xb, o, Option.none⟩ (.string c.e)).setCell ⟨xb, o + 1, Option.none⟩ (.string c.l)).setCell ⟨xb, o + 2, Option.none⟩ (.string c.n)).setCell ⟨xb, o + 3, Option.none⟩ (.string c.k)

theorem Laid.step {wr : World} {xb m : Nat} {f : Nat → Option Q4} (h : Laid wr xb m f) {i : Nat} (hi : i < m) (c : Q4) : Laid (set4 wr xb (i * 4) c) xb m (upd f i (some c)) := by
  obtain ⟨X, x1, x2, x3⟩ := h
  refine ⟨_, block_set (block_set (block_set (block_set x1 _ _) _ _) _ _) _ _, by simp [x2], fun j d hj hd => ?_⟩
  by_cases e : j = i
  · subst e
    rw [upd_same] at hd
    cases hd
    refine ⟨?_, ?_, ?_, ?_⟩ <;> simp [Array.getElem?_setIfInBounds] <;> omega
  · rw [upd_other _ _ e] at hd
    obtain ⟨y0, y1, y2, y3⟩ := x3 j d hj hd
    refine ⟨?_, ?_, ?_, ?_⟩ <;> rw [Array.getElem?_setIfInBounds_ne (by omega), Array.getElem?_setIfInBounds_ne (by omega), Array.getElem?_setIfInBounds_ne (by omega), Array.getElem?_setIfInBounds_ne (by omega)] <;> assumption
theorem Laid.keep {wr w' : World} {xb m : Nat} {f : Nat → Option Q4} (h : Laid wr xb m f) (hk : w'.heap[xb]? = wr.heap[xb]?) : Laid w' xb m f := by
  obtain ⟨X, x1, x2, x3⟩ := h
  exact ⟨X, hk.trans x1, x2, x3⟩
theorem Laid.old {wr : World} {xb m : Nat} {f : Nat → Option Q4} (h : Laid wr xb m f) {o : Nat} (ho : o < m * 4) : ∃ u, wr.cell? ⟨xb, o, Option.none⟩ = some u := by
  obtain ⟨X, x1, x2, x3⟩ := h
  exact ⟨X[o]'(by omega), by rw [cell_of x1, Array.getElem?_eq_getElem (by omega)]⟩
theorem Laid.free {wr : World} {xb m : Nat} {f : Nat → Option Q4} (h : Laid wr xb m f) (o : Nat) : wr.frozen? ⟨xb, o, Option.none⟩ = false := by
  obtain ⟨X, x1, x2, x3⟩ := h
  exact free_of x1 _
theorem Laid.lt {wr : World} {xb m : Nat} {f : Nat → Option Q4} (h : Laid wr xb m f) : xb < wr.heap.size := by
  obtain ⟨X, x1, x2, x3⟩ := h
  exact lt_of_block x1
theorem Laid.held {wr : World} {xb m : Nat} {f : Nat → Option Q4} (h : Laid wr xb m f) {cs : List Q4} (hl : cs.length = m) (hc : ∀ (j : Nat) c, cs[j]? = some c → f j = some c) : Held wr (some ⟨xb, 0, Option.none⟩) cs := fun i c hi => by
  obtain ⟨X, x1, x2, x3⟩ := h
  have := (List.getElem?_eq_some_iff.1 hi).1
  obtain ⟨y0, y1, y2, y3⟩ := x3 i c (by omega) (hc i c hi)
  refine ⟨xb, 0, rfl, ?_, ?_, ?_, ?_⟩ <;> rw [cell_of x1, Nat.zero_add] <;> assumption
theorem kept_set4 {S : Nat → Prop} {a w : World} (h : Kept S a w) {xb : Nat} (hp : S xb ∨ a.heap.size ≤ xb) (o : Nat) (c : Q4) : Kept S a (set4 w xb o c) := (((h.setCell hp _).setCell hp _).setCell hp _).setCell hp _

set_option maxHeartbeats 4000000 in
set_option maxRecDepth 100000 in
theorem toProj_any (ao : Option Addr) (n cap : Nat) (cs : List Q4) (w : World) (hH : Held w ao cs) (hl : cs.length = n) (hn : n ≤ 65536) :
    Calls Try.prog 7 #[.slice ao n cap] w fun e w' => ∃ g, e = .returned (.slice (some ⟨g, 0, Option.none⟩) n n) ∧ Held w' (some ⟨g, 0, Option.none⟩) cs ∧ Kept nothing w w' ∧ w.heap.size ≤ g := by
  have HH : Hid (Held w ao cs) := hH
  have HL : Hid (cs.length = n) := hl
  clear hH hl
  have hmk := run_make4 n hn
  have F0 : Hid (Laid (w.alloc (.cells (zero4 n) 32)) w.heap.size n fun _ => Option.none) := Laid.start w n
  have K0 : Hid (Kept nothing w (w.alloc (.cells (zero4 n) 32))) := (Kept.refl _ _).alloc _
  go_enter Try.func7, Try.ntmps7
  go_wp2
  clear hmk
  generalize w.alloc (.cells (zero4 n) 32) = w1 at F0 K0 ⊢
  go_loopw [4] (fun iv wr => ∃ i : Nat, i ≤ n ∧ iv = .int .i64 i ∧ Hid (Kept nothing w wr) ∧ Hid (∃ f, Laid wr w.heap.size n f ∧ ∀ j c, j < i → cs[j]? = some c → f j = some c)) (fun iv _ => n - (intOf iv).toNat)
  case atStart => exact ⟨0, Nat.zero_le _, by go_num, K0, _, F0.out, by omega⟩
  case round =>
    clear F0 K0
    obtain ⟨i, hi, rfl, HK, HF⟩ := hrel
    by_cases hlt : i < n
    · obtain ⟨c, hc⟩ : ∃ c, cs[i]? = some c := ⟨_, List.getElem?_eq_getElem (by rw [HL.out]; exact hlt)⟩
      obtain ⟨f, F, hf⟩ := HF.out
      obtain ⟨g, off, rfl, c0, c1, c2, c3⟩ := HH.out i c hc
      have b1 : g < w.heap.size := lt_of_cell c0
      replace c0 := HK.out.cell c0 id
      replace c1 := HK.out.cell c1 id
      replace c2 := HK.out.cell c2 id
      replace c3 := HK.out.cell c3 id
      obtain ⟨u0, q0⟩ := F.old (o := i * 4) (by omega)
      obtain ⟨u1, q1⟩ := F.old (o := i * 4 + 1) (by omega)
      obtain ⟨u2, q2⟩ := F.old (o := i * 4 + 2) (by omega)
      obtain ⟨u3, q3⟩ := F.old (o := i * 4 + 3) (by omega)
      have r0 := F.free (i * 4)
      have r1 := F.free (i * 4 + 1)
      have r2 := F.free (i * 4 + 2)
      have r3 := F.free (i * 4 + 3)
      have K1 : Hid (Kept nothing w (set4 wr w.heap.size (i * 4) c)) := kept_set4 HK.out (.inr (Nat.le_refl _)) _ _
      have F1 : Hid (∃ f, Laid (set4 wr w.heap.size (i * 4) c) w.heap.size n f ∧ ∀ j c, j < i + 1 → cs[j]? = some c → f j = some c) := ⟨_, F.step hlt c, fun j d hj hd => by
        by_cases e : j = i
        · subst e; rw [hc] at hd; cases hd; exact upd_same _ _ _
        · rw [upd_other _ _ e]; exact hf j d (by omega) hd⟩
      clear F hf HF HK hc
      go_wp2
      go_region
      go_wp2
      go_roundw
      case rel => exact ⟨i + 1, by omega, by go_num, K1.out.drew, F1⟩
      case measure => simp [intOf]; omega
    · obtain rfl : i = n := by omega
      go_wp2
      go_ret
      obtain ⟨f, F, hf⟩ := HF.out
      exact ⟨_, rfl, F.held HL.out (fun j c hc => hf j c (by have := (List.getElem?_eq_some_iff.1 hc).1; rw [HL.out] at this; exact this) hc), HK.out, Nat.le_refl _⟩

end Go.Proofs.Qxb6626223a.ToProj
