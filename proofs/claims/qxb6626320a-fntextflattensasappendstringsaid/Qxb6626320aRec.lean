/-
  THE WALKS of ZZRecordParts and the clones.
-/
import Derived.Test.Qxb6626320aText
namespace Go.Proofs.Qxb6626320a.Recs
open Go.RowKit
open Go.Proofs.Qxb6626320a.Frame Go.Proofs.Qxb6626320a.Parts Go.Proofs.Qxb6626320a.Text
set_option linter.unusedVariables false
set_option linter.unusedSimpArgs false

theorem info3 : (Try.prog.info? 3).map (fun i => (i.zero, i.size, i.bytes)) = some (some (.int .i64 0), 1, 8) := by kernel_rfl
theorem info9 : (Try.prog.info? 9).map (fun i => (i.zero, i.size, i.bytes)) = some (some (.string ByteArray.empty), 1, 16) := by kernel_rfl

/-- An array of the call's own, m cells, the first i filled. -/
def Fill (wr : World) (xb : Nat) (e : TypeId) (m : Nat) (xs : List Value) (i : Nat) : Prop :=
  ∃ X, wr.heap[xb]? = some (.cells X e (0, 0)) ∧ X.size = m ∧ ∀ (j : Nat) v, j < i → xs[j]? = some v → X[j]? = some v

theorem Fill.start (wr : World) {xb : Nat} {e : TypeId} {m : Nat} (xs : List Value) {X : Array Value} (h : wr.heap[xb]? = some (.cells X e (0, 0))) (hs : X.size = m) : Fill wr xb e m xs 0 := ⟨X, h, hs, fun j v hj => by omega⟩
theorem Fill.step {wr : World} {xb : Nat} {e : TypeId} {m : Nat} {xs : List Value} {i : Nat} (h : Fill wr xb e m xs i) (hi : i < m) {v : Value} (hv : xs[i]? = some v) : Fill (wr.setCell ⟨xb, i, Option.none⟩ v) xb e m xs (i + 1) := by
  obtain ⟨X, x1, x2, x3⟩ := h
  refine ⟨_, block_set x1 _ _, by simp [x2], fun j u hj hu => ?_⟩
  by_cases he : j = i
  · subst he
    rw [hv] at hu
    cases hu
    rw [Array.getElem?_setIfInBounds_self_of_lt (by omega)]
  · rw [Array.getElem?_setIfInBounds_ne (by omega)]
    exact x3 j u (by omega) hu
theorem Fill.keep {wr w' : World} {xb : Nat} {e : TypeId} {m : Nat} {xs : List Value} {i : Nat} (h : Fill wr xb e m xs i) (hk : w'.heap[xb]? = wr.heap[xb]?) : Fill w' xb e m xs i := by
  obtain ⟨X, x1, x2, x3⟩ := h
  exact ⟨X, hk.trans x1, x2, x3⟩
theorem Fill.old {wr : World} {xb : Nat} {e : TypeId} {m : Nat} {xs : List Value} {i : Nat} (h : Fill wr xb e m xs i) (hi : i < m) : ∃ old, wr.cell? ⟨xb, i, Option.none⟩ = some old := by
  obtain ⟨X, x1, x2, x3⟩ := h
  exact ⟨X[i]'(by omega), by rw [cell_of x1, Array.getElem?_eq_getElem (by omega)]⟩
theorem Fill.free {wr : World} {xb : Nat} {e : TypeId} {m : Nat} {xs : List Value} {i : Nat} (h : Fill wr xb e m xs i) (o : Nat) : wr.frozen? ⟨xb, o, Option.none⟩ = false := by
  obtain ⟨X, x1, x2, x3⟩ := h
  exact free_of x1 _
theorem Fill.lt {wr : World} {xb : Nat} {e : TypeId} {m : Nat} {xs : List Value} {i : Nat} (h : Fill wr xb e m xs i) : xb < wr.heap.size := by
  obtain ⟨X, x1, x2, x3⟩ := h
  exact lt_of_block x1
/-- Filled: owned. -/
theorem Fill.own {wr : World} {xb : Nat} {e : TypeId} {m : Nat} {xs : List Value} (h : Fill wr xb e m xs m) (hl : xs.length = m) (hm : m ≤ maxLen) : wr.ownsRow 0 e 1 (.slice (some ⟨xb, 0, Option.none⟩) m m) m xs := by
  obtain ⟨X, x1, x2, x3⟩ := h
  refine ⟨by omega, .inr ⟨xb, m, X, rfl, Nat.zero_le _, x1, Nat.le_refl _, hm, by omega, ?_⟩⟩
  rw [Nat.mul_one]
  apply List.ext_getElem?
  intro j
  by_cases hj : j < m
  · rw [List.getElem?_take_of_lt hj]
    have := x3 j xs[j] hj (List.getElem?_eq_getElem (by omega))
    rw [List.getElem?_eq_getElem (show j < xs.length by omega)]
    simpa using this
  · rw [List.getElem?_eq_none (by simp; omega), List.getElem?_eq_none (by omega)]

def atCells (hs : List (Nat × ByteArray)) : List Value := hs.map fun p => .int .i64 (p.1 : Int)
def sCells (hs : List (Nat × ByteArray)) : List Value := hs.map fun p => .string p.2

theorem hc_at : ∀ {hs : List (Nat × ByteArray)} {i : Nat} {p : Nat × ByteArray}, hs[i]? = some p → (hc hs)[i * 2]? = some (.int .i64 (p.1 : Int)) ∧ (hc hs)[i * 2 + 1]? = some (.string p.2)
  | [], i, p, h => by simp at h
  | q :: r, 0, p, h => by
    simp at h
    subst h
    exact ⟨rfl, rfl⟩
  | q :: r, i + 1, p, h => by
    have := hc_at (hs := r) (i := i) (p := p) (by simpa using h)
    have e : hc (q :: r) = .int .i64 (q.1 : Int) :: .string q.2 :: hc r := rfl
    rw [e, show (i + 1) * 2 = i * 2 + 1 + 1 by omega, show i * 2 + 1 + 1 + 1 = (i * 2 + 1) + 1 + 1 by omega]
    simpa using this

theorem held_cells {w : World} {vh : Value} {hs : List (Nat × ByteArray)} (h : w.ownsRow 0 46 2 vh hs.length (hc hs)) {i : Nat} {p : Nat × ByteArray} (hp : hs[i]? = some p) :
    ∃ g cap, vh = .slice (some ⟨g, 0, Option.none⟩) hs.length cap ∧ w.cell? ⟨g, i * 2, Option.none⟩ = some (.int .i64 (p.1 : Int)) ∧ w.cell? ⟨g, i * 2 + 1, Option.none⟩ = some (.string p.2) := by
  have hi := (List.getElem?_eq_some_iff.1 hp).1
  rcases h.2 with ⟨_, h0⟩ | ⟨g, cap, cur, rfl, hb, hg, hnc, hcm, hsz, htk⟩
  · omega
  · obtain ⟨h1, h2⟩ := hc_at hp
    rw [← htk] at h1 h2
    rw [List.getElem?_take_of_lt (by omega)] at h1 h2
    exact ⟨g, cap, rfl, by rw [cell_of hg]; simpa using h1, by rw [cell_of hg]; simpa using h2⟩

set_option maxHeartbeats 4000000 in
set_option maxRecDepth 100000 in
theorem parts_any (rb : Nat) (vb vh : Value) (bl : List UInt8) (hs : List (Nat × ByteArray)) (hl : Nat) (w : World) (h : Rec w rb vb vh bl hs hl) (hh : hs.length ≤ 4194304) :
    Calls Try.prog 13 #[.pointer (some ⟨rb, 0, Option.none⟩)] w fun e w' => e = .returned (.tuple #[vb, .slice (some ⟨w.heap.size, 0, Option.none⟩) hs.length hs.length, .slice (some ⟨w.heap.size + 1, 0, Option.none⟩) hs.length hs.length, .int .i64 (hl : Int)]) ∧
      Below w.heap.size w w' ∧ w'.ownsRow 0 3 1 (.slice (some ⟨w.heap.size, 0, Option.none⟩) hs.length hs.length) hs.length (atCells hs) ∧ w'.ownsRow 0 9 1 (.slice (some ⟨w.heap.size + 1, 0, Option.none⟩) hs.length hs.length) hs.length (sCells hs) := by
  have H : Hid (Rec w rb vb vh bl hs hl) := h
  obtain ⟨ah, ch, hvh⟩ := own_slice_n h.ownh
  subst hvh
  obtain ⟨ab, cb, hvb⟩ := own_slice_n h.ownb
  subst hvb
  have hrb := lt_of_block h.obj
  obtain ⟨c0, c1, c2, _, _, _⟩ := h.cells
  clear h
  generalize hm : hs.length = m at *
  have HM : Hid (hs.length = m) := hm
  clear hm
  have hmk1 := run_make_row' (P := Try.prog) 23 3 (.int .i64 0) 8 Try.underlying23 info3 rfl .i64 .i64 m (by omega) (by omega)
  have hmk2 := run_make_row' (P := Try.prog) 24 9 (.string ByteArray.empty) 16 Try.underlying24 info9 rfl .i64 .i64 m (by omega) (by omega)
  have F1 : Hid (Fill ((w.alloc (.cells (madeCells #[.int .i64 0] m) 3)).alloc (.cells (madeCells #[.string ByteArray.empty] m) 9)) w.heap.size 3 m (atCells hs) 0) := Fill.start _ _ (block_old _ (block_new _ _)) (size_madeCells _ _)
  have F2 : Hid (Fill ((w.alloc (.cells (madeCells #[.int .i64 0] m) 3)).alloc (.cells (madeCells #[.string ByteArray.empty] m) 9)) (w.heap.size + 1) 9 m (sCells hs) 0) := by
    have := block_new (w.alloc (.cells (madeCells #[.int .i64 0] m) 3)) (.cells (madeCells #[.string ByteArray.empty] m) 9)
    rw [World.size_alloc] at this
    exact Fill.start _ _ this (size_madeCells _ _)
  have FB : Hid (Below w.heap.size w ((w.alloc (.cells (madeCells #[.int .i64 0] m) 3)).alloc (.cells (madeCells #[.string ByteArray.empty] m) 9))) := ((Below.refl _ _).alloc (Nat.le_refl _) _).alloc (by simp) _
  go_enter Try.func13, Try.ntmps13
  go_wp2
  clear hmk1 hmk2
  generalize ((w.alloc (.cells (madeCells #[.int .i64 0] m) 3)).alloc (.cells (madeCells #[.string ByteArray.empty] m) 9)) = w2 at F1 F2 FB ⊢
  go_loopw [8] (fun iv wr => ∃ i : Nat, i ≤ m ∧ iv = .int .i64 i ∧ Hid (Below w.heap.size w wr) ∧ Hid (Fill wr w.heap.size 3 m (atCells hs) i) ∧ Hid (Fill wr (w.heap.size + 1) 9 m (sCells hs) i)) (fun iv _ => m - (intOf iv).toNat)
  case atStart => exact ⟨0, Nat.zero_le _, rfl, FB, F1, F2⟩
  case round =>
    clear FB F1 F2
    obtain ⟨i, hi, rfl, FB, F1, F2⟩ := hrel
    have k0 : wr.cell? ⟨rb, 0, Option.none⟩ = some (.slice ab bl.length cb) := (FB.out.cell (by exact hrb)).trans c0
    have k1 : wr.cell? ⟨rb, 1, Option.none⟩ = some (.slice ah m ch) := (FB.out.cell (by exact hrb)).trans c1
    have k2 : wr.cell? ⟨rb, 2, Option.none⟩ = some (.int .i64 (hl : Int)) := (FB.out.cell (by exact hrb)).trans c2
    by_cases hlt : i < m
    · obtain ⟨p, hp⟩ : ∃ p, hs[i]? = some p := ⟨_, List.getElem?_eq_getElem (by rw [HM.out]; exact hlt)⟩
      have hh2 := H.out.ownh
      rw [HM.out] at hh2
      obtain ⟨g, cap, hv, d1, d2⟩ := held_cells (by rw [HM.out]; exact hh2) hp
      simp only [Value.slice.injEq] at hv
      obtain ⟨hv1, _, _⟩ := hv
      subst hv1
      have hg := lt_of_cell d1
      have g1 : wr.cell? ⟨g, i * 2, Option.none⟩ = some (.int .i64 (p.1 : Int)) := (FB.out.cell (by exact hg)).trans d1
      have g2 : wr.cell? ⟨g, i * 2 + 1, Option.none⟩ = some (.string p.2) := (FB.out.cell (by exact hg)).trans d2
      obtain ⟨o1, q1⟩ := F1.out.old hlt
      obtain ⟨o2, q2⟩ := F2.out.old hlt
      have r1 := F1.out.free i
      have r2 := F2.out.free i
      have sz := F2.out.lt
      have hrb2 : rb ≠ w.heap.size := by omega
      have hg2 : g < w.heap.size := hg
      have hg3 : g ≠ w.heap.size := by omega
      have t1 : (wr.setCell ⟨w.heap.size, i, Option.none⟩ (.int .i64 (p.1 : Int))).cell? ⟨rb, 1, Option.none⟩ = some (.slice (some ⟨g, 0, Option.none⟩) m ch) := by rw [cell_set_ne _ _ _ hrb2]; exact k1
      have t2 : (wr.setCell ⟨w.heap.size, i, Option.none⟩ (.int .i64 (p.1 : Int))).cell? ⟨g, i * 2 + 1, Option.none⟩ = some (.string p.2) := by rw [cell_set_ne _ _ _ hg3]; exact g2
      have t3 : (wr.setCell ⟨w.heap.size, i, Option.none⟩ (.int .i64 (p.1 : Int))).cell? ⟨w.heap.size + 1, i, Option.none⟩ = some o2 := by rw [cell_set_ne _ _ _ (by omega)]; exact q2
      have R1 : Hid (Fill ((wr.setCell ⟨w.heap.size, i, Option.none⟩ (.int .i64 (p.1 : Int))).setCell ⟨w.heap.size + 1, i, Option.none⟩ (.string p.2)) w.heap.size 3 m (atCells hs) (i + 1)) := (F1.out.step hlt (by simp [atCells, hp])).keep (block_set_ne _ _ (by omega))
      have R2 : Hid (Fill ((wr.setCell ⟨w.heap.size, i, Option.none⟩ (.int .i64 (p.1 : Int))).setCell ⟨w.heap.size + 1, i, Option.none⟩ (.string p.2)) (w.heap.size + 1) 9 m (sCells hs) (i + 1)) := (F2.out.keep (block_set_ne _ _ (by omega))).step hlt (by simp [sCells, hp])
      have R3 : Hid (Below w.heap.size w ((wr.setCell ⟨w.heap.size, i, Option.none⟩ (.int .i64 (p.1 : Int))).setCell ⟨w.heap.size + 1, i, Option.none⟩ (.string p.2))) := (FB.out.setCell (Nat.le_refl _) _).setCell (by show _ ≤ w.heap.size + 1; omega) _
      clear hp hh2 d1 d2 hg g2 q2 k0 k2 c0 c1 c2 F1 F2 FB
      go_wp2
      go_roundw
      case rel => exact ⟨i + 1, by omega, by go_num, R3, R1, R2⟩
      case measure => simp [intOf]; omega
    · obtain rfl : i = m := by omega
      have R1 := F1.out.own (by simp [atCells, HM.out]) (by unfold maxLen; omega)
      have R2 := F2.out.own (by simp [sCells, HM.out]) (by unfold maxLen; omega)
      have G1 : Hid _ := R1
      have G2 : Hid _ := R2
      clear R1 R2 F1 F2
      go_wp2
      go_quiet (fail)
      go_wp2
      refine bodyPost_ret (v := .tuple #[.slice ab bl.length cb, .slice (some ⟨w.heap.size, 0, Option.none⟩) i i, .slice (some ⟨w.heap.size + 1, 0, Option.none⟩) i i, .int .i64 (hl : Int)]) (by simp [results, Try.results13, go_sem]) rfl ⟨rfl, ⟨FB.out.os, FB.out.tape, FB.out.output, FB.out.size, FB.out.block⟩, G1.out, G2.out⟩

/-- What a clone leaves: a row of its own (nil for nil). -/
def Cloned (w : World) (e : TypeId) (n : Nat) (xs : List Value) (v' : Value) (w' : World) : Prop :=
  Below w.heap.size w w' ∧ w'.ownsRow 0 e 1 v' n xs ∧ ∀ k, v'.ownBlock = some k → w.heap.size ≤ k

set_option maxHeartbeats 2000000 in
set_option maxRecDepth 100000 in
theorem cloneB_any (ao : Option Addr) (n cap : Nat) (xs : List Value) (w : World) (ha : At w ao xs) (hl : xs.length = n) (hn : ao = Option.none → n = 0) (hx : ∀ x ∈ xs, ∃ z : Int, x = .int .u8 z) (hm : n ≤ 4194304) :
    Calls Try.prog 6 #[.slice ao n cap] w fun e w' => ∃ v', e = .returned v' ∧ Cloned w 5 n xs v' w' := by
  have HA : Hid (At w ao xs) := ha
  have HL : Hid (xs.length = n) := hl
  have HX : Hid (∀ x ∈ xs, ∃ z : Int, x = .int .u8 z) := hx
  clear ha hl hx
  have hnil := fun W => Lib.run_eql_slice_nil (P := Try.prog) W 22 5 ao n cap 0 0 Try.underlying22
  cases ao with
  | none =>
    have h0 := hn rfl
    subst h0
    have hx0 : xs = [] := List.eq_nil_of_length_eq_zero HL.out
    subst hx0
    clear hn
    go_enter Try.func6, Try.ntmps6
    go_wp2
    go_ret
    exact ⟨_, rfl, Below.refl _ _, World.ownsRow_nil _ _ _ _, fun k hk => by simp [Value.ownBlock] at hk⟩
  | some a =>
    clear hn
    have hmk := run_make_row' (P := Try.prog) 22 5 (.int .u8 0) 1 Try.underlying22 info5 rfl .i64 .i64 n (by omega) (by omega)
    have F1 : Hid (Fill (w.alloc (.cells (madeCells #[.int .u8 0] n) 5)) w.heap.size 5 n xs 0) := Fill.start _ _ (block_new _ _) (size_madeCells _ _)
    have FB : Hid (Below w.heap.size w (w.alloc (.cells (madeCells #[.int .u8 0] n) 5))) := (Below.refl _ _).alloc (Nat.le_refl _) _
    go_enter Try.func6, Try.ntmps6
    go_wp2
    clear hmk hnil
    generalize (w.alloc (.cells (madeCells #[.int .u8 0] n) 5)) = w2 at F1 FB ⊢
    go_loopw [4] (fun iv wr => ∃ i : Nat, i ≤ n ∧ iv = .int .i64 i ∧ Hid (Below w.heap.size w wr) ∧ Hid (Fill wr w.heap.size 5 n xs i)) (fun iv _ => n - (intOf iv).toNat)
    case atStart => exact ⟨0, Nat.zero_le _, rfl, FB, F1⟩
    case round =>
      clear FB F1
      obtain ⟨i, hi, rfl, FB, F1⟩ := hrel
      by_cases hlt : i < n
      · obtain ⟨v, hv⟩ : ∃ v, xs[i]? = some v := ⟨_, List.getElem?_eq_getElem (by rw [HL.out]; exact hlt)⟩
        obtain ⟨z, rfl⟩ := HX.out v (List.mem_of_getElem? hv)
        obtain ⟨g, off, he, d1⟩ := HA.out i _ hv
        cases he
        have hg := lt_of_cell d1
        have g1 : wr.cell? ⟨g, off + i, Option.none⟩ = _ := (FB.out.cell (by exact hg)).trans d1
        obtain ⟨o1, q1⟩ := F1.out.old hlt
        have r1 := F1.out.free i
        have R1 := F1.out.step hlt hv
        have R2 : Hid _ := R1
        have R3 := FB.out.setCell (p := ⟨w.heap.size, i, Option.none⟩) (Nat.le_refl _) (.int .u8 z)
        have R4 : Hid _ := R3
        clear hv d1 hg R1 F1 FB
        go_wp2
        go_roundw
        case rel => exact ⟨i + 1, by omega, by go_num, R4, R2⟩
        case measure => simp [intOf]; omega
      · obtain rfl : i = n := by omega
        have R1 := F1.out.own HL.out (by unfold maxLen; omega)
        have G1 : Hid _ := R1
        clear R1 F1
        go_wp2
        go_ret
        exact ⟨_, rfl, FB.out, G1.out, fun k hk => by simp [Value.ownBlock] at hk; omega⟩

set_option maxHeartbeats 2000000 in
set_option maxRecDepth 100000 in
theorem cloneI_any (ao : Option Addr) (n cap : Nat) (xs : List Value) (w : World) (ha : At w ao xs) (hl : xs.length = n) (hn : ao = Option.none → n = 0) (hx : ∀ x ∈ xs, ∃ z : Int, x = .int .i64 z) (hm : n ≤ 4194304) :
    Calls Try.prog 7 #[.slice ao n cap] w fun e w' => ∃ v', e = .returned v' ∧ Cloned w 3 n xs v' w' := by
  have HA : Hid (At w ao xs) := ha
  have HL : Hid (xs.length = n) := hl
  have HX : Hid (∀ x ∈ xs, ∃ z : Int, x = .int .i64 z) := hx
  clear ha hl hx
  have hnil := fun W => Lib.run_eql_slice_nil (P := Try.prog) W 23 3 ao n cap 0 0 Try.underlying23
  cases ao with
  | none =>
    have h0 := hn rfl
    subst h0
    have hx0 : xs = [] := List.eq_nil_of_length_eq_zero HL.out
    subst hx0
    clear hn
    go_enter Try.func7, Try.ntmps7
    go_wp2
    go_ret
    exact ⟨_, rfl, Below.refl _ _, World.ownsRow_nil _ _ _ _, fun k hk => by simp [Value.ownBlock] at hk⟩
  | some a =>
    clear hn
    have hmk := run_make_row' (P := Try.prog) 23 3 (.int .i64 0) 8 Try.underlying23 info3 rfl .i64 .i64 n (by omega) (by omega)
    have F1 : Hid (Fill (w.alloc (.cells (madeCells #[.int .i64 0] n) 3)) w.heap.size 3 n xs 0) := Fill.start _ _ (block_new _ _) (size_madeCells _ _)
    have FB : Hid (Below w.heap.size w (w.alloc (.cells (madeCells #[.int .i64 0] n) 3))) := (Below.refl _ _).alloc (Nat.le_refl _) _
    go_enter Try.func7, Try.ntmps7
    go_wp2
    clear hmk hnil
    generalize (w.alloc (.cells (madeCells #[.int .i64 0] n) 3)) = w2 at F1 FB ⊢
    go_loopw [4] (fun iv wr => ∃ i : Nat, i ≤ n ∧ iv = .int .i64 i ∧ Hid (Below w.heap.size w wr) ∧ Hid (Fill wr w.heap.size 3 n xs i)) (fun iv _ => n - (intOf iv).toNat)
    case atStart => exact ⟨0, Nat.zero_le _, rfl, FB, F1⟩
    case round =>
      clear FB F1
      obtain ⟨i, hi, rfl, FB, F1⟩ := hrel
      by_cases hlt : i < n
      · obtain ⟨v, hv⟩ : ∃ v, xs[i]? = some v := ⟨_, List.getElem?_eq_getElem (by rw [HL.out]; exact hlt)⟩
        obtain ⟨z, rfl⟩ := HX.out v (List.mem_of_getElem? hv)
        obtain ⟨g, off, he, d1⟩ := HA.out i _ hv
        cases he
        have hg := lt_of_cell d1
        have g1 : wr.cell? ⟨g, off + i, Option.none⟩ = _ := (FB.out.cell (by exact hg)).trans d1
        obtain ⟨o1, q1⟩ := F1.out.old hlt
        have r1 := F1.out.free i
        have R1 := F1.out.step hlt hv
        have R2 : Hid _ := R1
        have R3 := FB.out.setCell (p := ⟨w.heap.size, i, Option.none⟩) (Nat.le_refl _) (.int .i64 z)
        have R4 : Hid _ := R3
        clear hv d1 hg R1 F1 FB
        go_wp2
        go_roundw
        case rel => exact ⟨i + 1, by omega, by go_num, R4, R2⟩
        case measure => simp [intOf]; omega
      · obtain rfl : i = n := by omega
        have R1 := F1.out.own HL.out (by unfold maxLen; omega)
        have G1 : Hid _ := R1
        clear R1 F1
        go_wp2
        go_ret
        exact ⟨_, rfl, FB.out, G1.out, fun k hk => by simp [Value.ownBlock] at hk; omega⟩

set_option maxHeartbeats 2000000 in
set_option maxRecDepth 100000 in
theorem cloneS_any (ao : Option Addr) (n cap : Nat) (xs : List Value) (w : World) (ha : At w ao xs) (hl : xs.length = n) (hn : ao = Option.none → n = 0) (hx : ∀ x ∈ xs, ∃ z : ByteArray, x = .string z) (hm : n ≤ 4194304) :
    Calls Try.prog 8 #[.slice ao n cap] w fun e w' => ∃ v', e = .returned v' ∧ Cloned w 9 n xs v' w' := by
  have HA : Hid (At w ao xs) := ha
  have HL : Hid (xs.length = n) := hl
  have HX : Hid (∀ x ∈ xs, ∃ z : ByteArray, x = .string z) := hx
  clear ha hl hx
  have hnil := fun W => Lib.run_eql_slice_nil (P := Try.prog) W 24 9 ao n cap 0 0 Try.underlying24
  cases ao with
  | none =>
    have h0 := hn rfl
    subst h0
    have hx0 : xs = [] := List.eq_nil_of_length_eq_zero HL.out
    subst hx0
    clear hn
    go_enter Try.func8, Try.ntmps8
    go_wp2
    go_ret
    exact ⟨_, rfl, Below.refl _ _, World.ownsRow_nil _ _ _ _, fun k hk => by simp [Value.ownBlock] at hk⟩
  | some a =>
    clear hn
    have hmk := run_make_row' (P := Try.prog) 24 9 (.string ByteArray.empty) 16 Try.underlying24 info9 rfl .i64 .i64 n (by omega) (by omega)
    have F1 : Hid (Fill (w.alloc (.cells (madeCells #[.string ByteArray.empty] n) 9)) w.heap.size 9 n xs 0) := Fill.start _ _ (block_new _ _) (size_madeCells _ _)
    have FB : Hid (Below w.heap.size w (w.alloc (.cells (madeCells #[.string ByteArray.empty] n) 9))) := (Below.refl _ _).alloc (Nat.le_refl _) _
    go_enter Try.func8, Try.ntmps8
    go_wp2
    clear hmk hnil
    generalize (w.alloc (.cells (madeCells #[.string ByteArray.empty] n) 9)) = w2 at F1 FB ⊢
    go_loopw [4] (fun iv wr => ∃ i : Nat, i ≤ n ∧ iv = .int .i64 i ∧ Hid (Below w.heap.size w wr) ∧ Hid (Fill wr w.heap.size 9 n xs i)) (fun iv _ => n - (intOf iv).toNat)
    case atStart => exact ⟨0, Nat.zero_le _, rfl, FB, F1⟩
    case round =>
      clear FB F1
      obtain ⟨i, hi, rfl, FB, F1⟩ := hrel
      by_cases hlt : i < n
      · obtain ⟨v, hv⟩ : ∃ v, xs[i]? = some v := ⟨_, List.getElem?_eq_getElem (by rw [HL.out]; exact hlt)⟩
        obtain ⟨z, rfl⟩ := HX.out v (List.mem_of_getElem? hv)
        obtain ⟨g, off, he, d1⟩ := HA.out i _ hv
        cases he
        have hg := lt_of_cell d1
        have g1 : wr.cell? ⟨g, off + i, Option.none⟩ = _ := (FB.out.cell (by exact hg)).trans d1
        obtain ⟨o1, q1⟩ := F1.out.old hlt
        have r1 := F1.out.free i
        have R1 := F1.out.step hlt hv
        have R2 : Hid _ := R1
        have R3 := FB.out.setCell (p := ⟨w.heap.size, i, Option.none⟩) (Nat.le_refl _) (.string z)
        have R4 : Hid _ := R3
        clear hv d1 hg R1 F1 FB
        go_wp2
        go_roundw
        case rel => exact ⟨i + 1, by omega, by go_num, R4, R2⟩
        case measure => simp [intOf]; omega
      · obtain rfl : i = n := by omega
        have R1 := F1.out.own HL.out (by unfold maxLen; omega)
        have G1 : Hid _ := R1
        clear R1 F1
        go_wp2
        go_ret
        exact ⟨_, rfl, FB.out, G1.out, fun k hk => by simp [Value.ownBlock] at hk; omega⟩

end Go.Proofs.Qxb6626320a.Recs
