/-
  THE WALK of zzKeptIndices.
-/
import Derived.Test.Qxb6625896aPlain2
import Derived.Lib.JoinLaws
namespace Go.Proofs.Qxb6625896a.Idx
open Go.RowKit
open Go.Proofs.Qxb6625896a.Plain Go.Proofs.Qxb6625896a.Frame Go.Proofs.Qxb6625896a.Parts Go.Proofs.Qxb6625896a.Heap Go.Proofs.Qxb6625896a.Plain2
set_option linter.unusedVariables false
set_option linter.unusedSimpArgs false

theorem info3 : (Try.prog.info? 3).map (fun i => (i.zero, i.size, i.bytes)) = some (some (.int .i64 0), 1, 8) := by kernel_rfl
theorem info3' : ∃ i, Try.prog.info? 3 = some i ∧ i.size = 1 := by
  obtain ⟨i, hi, hzz⟩ := Option.map_eq_some_iff.1 info3
  simp only [Prod.mk.injEq] at hzz
  exact ⟨i, hi, hzz.2.1⟩

/-- 'append(idx, x)' with room. -/
theorem append_int (W : World) (kb m cap ty : Nat) (x : Int) (K : Array Value) (hK : W.heap[kb]? = some (.cells K 3 (0, 0))) (hsz : K.size = cap) (hm : m < cap) :
    (Builtin.append_ #[42, 42] ty #[.slice (some ⟨kb, 0, Option.none⟩) m cap, .slice (some ⟨W.heap.size, 0, Option.none⟩) 1 1]).run Try.prog (W.alloc (.cells #[.int .i64 x] 3)) =
      .ok (.slice (some ⟨kb, 0, Option.none⟩) (m + 1) cap) ((W.setCell ⟨kb, m, Option.none⟩ (.int .i64 x)).alloc (.cells #[.int .i64 x] 3)) := by
  obtain ⟨i, hi, hs⟩ := info3'
  have hK' := block_old (.cells #[.int .i64 x] 3) hK
  have := run_append_room_cells (P := Try.prog) (W.alloc (.cells #[.int .i64 x] 3)) 42 ty 3 i Try.underlying42 hi kb 0 m cap ⟨W.heap.size, 0, Option.none⟩ 1 1 [.int .i64 x] (by rw [hs]; rfl)
    (fun j u hj => by
      match j, hj with
      | 0, hj => simp at hj; subst hj; exact (cell_of (block_new _ _) _).trans rfl)
    (fun u hu => by simp at hu; subst hu; rfl) (by omega)
    (fun j hj => by
      simp at hj
      subst hj
      rw [cell_of hK', Array.getElem?_eq_getElem (by rw [hs]; omega)]
      rfl)
    (fun j hj => free_of hK' _)
  rw [this, hs]
  simp only [World.setCells, Nat.mul_one, Nat.zero_add]
  rw [World.setCell_alloc_past _ _ _ _ (lt_of_block hK)]

/-- The places ix of the pointers ks among bs, in rising order. -/
structure Places (bs ks ix : List Nat) : Prop where
  len : ix.length = ks.length
  place : ∀ (p i : Nat), ix[p]? = some i → bs[i]? = ks[p]? ∧ i < bs.length
  inc : ∀ (p i j : Nat), ix[p]? = some i → ix[p + 1]? = some j → i < j

/-- The indices found so far lie in the new array xb. -/
structure Got (w : World) (xb kl : Nat) (off : Int) (ix : List Nat) (p : Nat) (wr : World) : Prop where
  below : Below w.heap.size w wr
  arr : ∃ X, wr.heap[xb]? = some (.cells X 3 (0, 0)) ∧ X.size = kl ∧ ∀ q i, q < p → ix[q]? = some i → X[q]? = some (.int .i64 ((i : Int) + off))

theorem Got.drewN {w : World} {xb kl : Nat} {off : Int} {ix : List Nat} {p : Nat} {wr : World} (h : Got w xb kl off ix p wr) (q : Nat) : Got w xb kl off ix p (wr.drewN q) :=
  ⟨⟨h.below.os, h.below.tape, h.below.output, h.below.size, h.below.block⟩, h.arr⟩

theorem Got.step {w : World} {kl : Nat} {off : Int} {ix : List Nat} {p i : Nat} {wr : World} (h : Got w w.heap.size kl off ix p wr) (hp : p < kl) (hi : ix[p]? = some i) :
    Got w w.heap.size kl off ix (p + 1) ((wr.setCell ⟨w.heap.size, p, Option.none⟩ (.int .i64 ((i : Int) + off))).alloc (.cells #[.int .i64 ((i : Int) + off)] 3)) := by
  obtain ⟨X, x1, x2, x3⟩ := h.arr
  refine ⟨(h.below.setCell (Nat.le_refl _) _).alloc (by rw [World.size_setCell]; exact h.below.size) _, ⟨_, block_old _ (block_set x1 _ _), by simp [x2], fun q j hq hj => ?_⟩⟩
  by_cases he : q = p
  · subst he
    rw [hi] at hj
    cases hj
    rw [Array.getElem?_setIfInBounds_self_of_lt (by omega)]
  · rw [Array.getElem?_setIfInBounds_ne (by omega)]
    exact x3 q j (by omega) hj

set_option maxRecDepth 1000000 in
set_option maxHeartbeats 4000000 in
theorem idx_any (ob pb n kl cap : Nat) (off : Int) (bs ks ix : List Nat) (ms : List Chk) (A K : Array Value) (w : World)
    (hA : w.heap[ob]? = some (.cells A 35 (0, 0))) (rowA : RowA A 0 bs) (hK : w.heap[pb]? = some (.cells K 35 (0, 0))) (rowK : RowA K 0 ks)
    (objs : Objs w bs ms) (nodup : bs.Nodup) (hn : bs.length = n) (hkl : ks.length = kl) (hp : Places bs ks ix) (hmax : n ≤ 65536) (hmax2 : kl ≤ 65536) (ho1 : 0 ≤ off) (ho2 : off ≤ 65536) :
    Calls Try.prog 18 #[.slice (some ⟨ob, 0, Option.none⟩) n n, .slice (some ⟨pb, 0, Option.none⟩) kl cap, .int .i64 off] w fun e w' =>
      e = .returned (.tuple #[.slice (some ⟨w.heap.size, 0, Option.none⟩) kl kl, .bool true]) ∧ Got w w.heap.size kl off ix kl w' := by
  have HA : Hid (w.heap[ob]? = some (.cells A 35 (0, 0))) := hA
  have HRA : Hid (RowA A 0 bs) := rowA
  have HK : Hid (w.heap[pb]? = some (.cells K 35 (0, 0))) := hK
  have HRK : Hid (RowA K 0 ks) := rowK
  have HO : Hid (Objs w bs ms) := objs
  have HND : Hid (bs.Nodup) := nodup
  have HN : Hid (bs.length = n) := hn
  have HKL : Hid (ks.length = kl) := hkl
  have HP : Hid (Places bs ks ix) := hp
  clear hA rowA hK rowK objs nodup hn hkl hp
  have hmk := run_make_room (P := Try.prog) 42 3 (.int .i64 0) 8 Try.underlying42 info3 rfl .i64 .i64 kl (by omega) (by omega)
  have HG0 : Hid (Got w w.heap.size kl off ix 0 (w.alloc (.cells (madeCells #[.int .i64 0] kl) 3))) :=
    ⟨(Below.refl _ _).alloc (Nat.le_refl _) _, ⟨_, block_new _ _, size_madeCells _ _, fun q i hq => by omega⟩⟩
  go_enter Try.func18, Try.ntmps18
  go_wp2
  clear hmk
  generalize (w.alloc (.cells (madeCells #[.int .i64 0] kl) 3)) = w1 at HG0 ⊢
  go_loopw [8, 9, 10] (fun sv iv pv wr => ∃ (p i : Nat), p ≤ kl ∧ i ≤ n ∧ sv = .slice (some ⟨w.heap.size, 0, Option.none⟩) p kl ∧ iv = .int .i64 i ∧ pv = .int .i64 p ∧ Hid (∀ j, ix[p]? = some j → i ≤ j) ∧ Hid (Got w w.heap.size kl off ix p wr)) (fun _ _ pv _ => kl - (intOf pv).toNat)
  case atStart => exact ⟨0, 0, Nat.zero_le _, Nat.zero_le _, rfl, rfl, rfl, (fun j _ => Nat.zero_le j : ∀ j, ix[0]? = some j → 0 ≤ j), HG0⟩
  case round =>
    clear HG0
    obtain ⟨p, i, hpk, hin, rfl, rfl, rfl, HI, HG⟩ := hrel
    by_cases hlt : p < kl
    · obtain ⟨j, hj⟩ : ∃ j, ix[p]? = some j := ⟨_, List.getElem?_eq_getElem (by rw [HP.out.len, HKL.out]; exact hlt)⟩
      obtain ⟨b, hb⟩ : ∃ b, ks[p]? = some b := ⟨_, List.getElem?_eq_getElem (by rw [HKL.out]; exact hlt)⟩
      have hjn : j < n := by rw [← HN.out]; exact (HP.out.place p j hj).2
      have hij : i ≤ j := HI.out j hj
      have HBJ : Hid (bs[j]? = some b) := by
        have := (HP.out.place p j hj).1
        rw [hb] at this
        exact this
      have HJ : Hid (ix[p]? = some j) := hj
      have hkc : wr.cell? ⟨pb, p, Option.none⟩ = some (.pointer (some ⟨b, 0, Option.none⟩)) := by
        have h1 : w.cell? ⟨pb, p, Option.none⟩ = some (.pointer (some ⟨b, 0, Option.none⟩)) := by
          rw [cell_of HK.out]; simpa [ptr] using HRK.out p b hb
        exact (HG.out.below.cell (lt_of_block HK.out)).trans h1
      clear hj hb HI
      go_wp2
      go_loopw [9] (fun iv wv => ∃ (i q : Nat), i ≤ j ∧ iv = .int .i64 i ∧ wv = wr.drewN q) (fun iv _ => j - (intOf iv).toNat)
      case atStart => exact ⟨i, 0, hij, rfl, rfl⟩
      case round =>
        clear hij hin
        obtain ⟨i, q, hij, rfl, rfl⟩ := hrel
        obtain ⟨d, hd⟩ : ∃ d, bs[i]? = some d := ⟨_, List.getElem?_eq_getElem (by rw [HN.out]; omega)⟩
        have hoc : wr.cell? ⟨ob, i, Option.none⟩ = some (.pointer (some ⟨d, 0, Option.none⟩)) := by
          have h1 : w.cell? ⟨ob, i, Option.none⟩ = some (.pointer (some ⟨d, 0, Option.none⟩)) := by
            rw [cell_of HA.out]; simpa [ptr] using HRA.out i d hd
          exact (HG.out.below.cell (lt_of_block HA.out)).trans h1
        have hin : i < n := by omega
        have hin' : (i : Int) < (n : Int) := by omega
        have hpk' : (p : Int) < (kl : Int) := by omega
        by_cases he : i < j
        · have hne : d ≠ b := by
            rintro rfl
            have h1 := (List.getElem?_eq_some_iff.1 hd)
            have h2 := (List.getElem?_eq_some_iff.1 HBJ.out)
            obtain ⟨l1, e1⟩ := h1
            obtain ⟨l2, e2⟩ := h2
            exact List.pairwise_iff_getElem.1 HND.out i j l1 l2 he (e1.trans e2.symm)
          have hne2 : ∀ x, (binOp .neq 35 (.pointer (some ⟨d, 0, Option.none⟩)) (.pointer (some ⟨b, 0, Option.none⟩))).run Try.prog (wr.drewN x) = .ok (.bool true) (wr.drewN x) := fun x => by
            obtain ⟨c1, h1⟩ := HO.out.mem d (List.mem_of_getElem? hd)
            obtain ⟨c2, h2⟩ := HO.out.mem b (List.mem_of_getElem? HBJ.out)
            refine ptr_neq_other (c := c1) (d := c2) ?_ ?_ hne
            · exact (HG.out.below.block d (lt_of_block h1)).trans h1
            · exact (HG.out.below.block b (lt_of_block h2)).trans h2
          clear hd hne
          go_wp2
          go_quiet (fail)
          go_wp2
          go_roundw
          case rel => exact ⟨i + 1, q + nq, by omega, by go_num, by simp [World.drewN, Nat.add_assoc]⟩
          case measure => simp [intOf]; omega
        · have hij2 : i = j := by omega
          have hdb : d = b := by
            have := HBJ.out
            rw [← hij2, hd] at this
            cases this
            rfl
          subst hij2
          subst hdb
          have hneq := ptr_neq_same
          have hne3 : ((i : Int) == (n : Int)) = false := beq_eq_false_iff_ne.2 (by omega)
          obtain ⟨X, x1, x2, x3⟩ := HG.out.arr
          have HX1 : Hid (∀ x, (wr.drewN x).heap[w.heap.size]? = some (.cells X 3 (0, 0))) := fun _ => x1
          have HX2 : Hid (X.size = kl) := x2
          clear hd x1 x2 x3
          go_wp2
          go_quiet (fail)
          go_wp2_with (at_builtin; refine wpList_append_run _ rfl (.tmp 41) (.tmp 45) 42 42 rfl _ _ _ _ rfl rfl (append_int _ w.heap.size p kl _ ((i : Int) + off) X (HX1.out _) HX2.out hlt) ?_)
          go_roundw
          case rel =>
            refine ⟨p + 1, i + 1, by omega, by omega, by go_num, by go_num, by go_num, ?_, (HG.out.drewN _).step hlt HJ.out⟩
            intro j hj
            exact HP.out.inc p i j HJ.out hj
          case measure => simp [intOf]; omega
    · have hpl : p = kl := by omega
      subst hpl
      go_wp2
      go_ret2
      exact ⟨rfl, HG.out⟩

end Go.Proofs.Qxb6625896a.Idx
