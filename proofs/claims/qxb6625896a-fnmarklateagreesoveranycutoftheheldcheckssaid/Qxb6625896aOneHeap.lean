/-
  LAW ONE: what lies in memory while the law checks.
-/
import Derived.Test.Qxb6625896aPlain2
namespace Go.Proofs.Qxb6625896a.One
open Go.RowKit
open Go.Proofs.Qxb6625896a.Plain Go.Proofs.Qxb6625896a.Frame Go.Proofs.Qxb6625896a.Parts Go.Proofs.Qxb6625896a.Heap Go.Proofs.Qxb6625896a.Delete Go.Proofs.Qxb6625896a.Mark Go.Proofs.Qxb6625896a.Build Go.Proofs.Qxb6625896a.Plain2
set_option linter.unusedVariables false
set_option linter.unusedSimpArgs false

theorem below_dr {w w' : World} {q : Nat} (h : Below (w.drewN q).heap.size (w.drewN q) w') : Below w.heap.size w w' := ⟨h.os, h.tape, h.output, h.size, h.block⟩

/-- Behind the first run of markLate. -/
structure Base (w0 : World) (ob pb sb kb n : Nat) (inc wait : Int) (L : Nat) (bs : List Nat) (cs : List Chk) (w : World) : Prop where
  below : Below w0.heap.size w0 w
  arr1 : ∃ A, w.heap[ob]? = some (.cells A 35 (0, 0)) ∧ A.size = n ∧ RowA A 0 bs
  arr2 : ∃ A, w.heap[pb]? = some (.cells A 35 (0, 0)) ∧ A.size = n ∧ RowA A 0 (ckKeep inc L cs bs)
  objs : Objs w bs (ckMark inc L cs)
  slot : w.heap[sb]? = some (slotObj pb (ckKeep inc L cs bs).length n ((L + ckN inc L cs : Nat) : Int) wait)
  nodup : bs.Nodup
  lts : ∀ k, k = ob ∨ k = pb ∨ k = sb ∨ k ∈ bs → w0.heap.size ≤ k ∧ k < kb
  w0kb : w0.heap.size ≤ kb

theorem Base.kept {w0 : World} {ob pb sb kb n : Nat} {inc wait : Int} {L : Nat} {bs : List Nat} {cs : List Chk} {w w' : World} (h : Base w0 ob pb sb kb n inc wait L bs cs w) (hk : Kept (fun k => kb ≤ k) w w') : Base w0 ob pb sb kb n inc wait L bs cs w' := by
  have key : ∀ k x, k = ob ∨ k = pb ∨ k = sb ∨ k ∈ bs → w.heap[k]? = some x → w'.heap[k]? = some x := fun k x hm hx => hk.at hx (by have := h.lts k hm; omega)
  obtain ⟨A1, a1, a2, a3⟩ := h.arr1
  obtain ⟨A2, b1, b2, b3⟩ := h.arr2
  refine ⟨h.below.trans (hk.below h.below.size fun k hk => Nat.le_trans h.w0kb hk), ⟨A1, key _ _ (Or.inl rfl) a1, a2, a3⟩, ⟨A2, key _ _ (Or.inr (Or.inl rfl)) b1, b2, b3⟩, h.objs.congr fun b hb => ?_, key _ _ (Or.inr (Or.inr (Or.inl rfl))) h.slot, h.nodup, h.lts, h.w0kb⟩
  obtain ⟨c, hc⟩ := h.objs.mem b hb
  rw [key b _ (Or.inr (Or.inr (Or.inr hb))) hc, hc]

/-- The first loop, i checks done. kb: the array of 'kept'; kb + 1: that of 'want'. -/
structure L1 (w0 : World) (ob pb sb kb n : Nat) (inc wait : Int) (L : Nat) (bs : List Nat) (cs : List Chk) (i : Nat) (w : World) : Prop where
  base : Base w0 ob pb sb kb n inc wait L bs cs w
  karr : ∃ K, w.heap[kb]? = some (.cells K 35 (0, 0)) ∧ K.size = n ∧ RowA K 0 (ckKeep inc L (cs.take i) (bs.take i))
  warr : ∃ V, w.heap[kb + 1]? = some (.cells V 4 (0, 0)) ∧ V.size = n ∧ ∀ j m, j < i → (ckMark inc L cs)[j]? = some m → V[j]? = some (.bool m.l)

theorem L1.drew {w0 : World} {ob pb sb kb n : Nat} {inc wait : Int} {L : Nat} {bs : List Nat} {cs : List Chk} {i : Nat} {w : World} (h : L1 w0 ob pb sb kb n inc wait L bs cs i w) (q : Nat) : L1 w0 ob pb sb kb n inc wait L bs cs i (w.drewN q) :=
  ⟨h.base.kept ((Kept.refl _ _).drewN q), h.karr, h.warr⟩

theorem warr_step {n i : Nat} {V : Array Value} {ms : List Chk} {m : Chk} (h2 : V.size = n) (h3 : ∀ j m, j < i → ms[j]? = some m → V[j]? = some (.bool m.l)) (hi : i < n) (hm : ms[i]? = some m) {u : Bool} (hu : u = m.l) :
    ∀ j m, j < i + 1 → ms[j]? = some m → (V.setIfInBounds i (.bool u))[j]? = some (.bool m.l) := by
  intro j x hj hx
  by_cases he : j = i
  · subst he
    rw [hm] at hx
    cases hx
    rw [Array.getElem?_setIfInBounds_self_of_lt (by omega), hu]
  · rw [Array.getElem?_setIfInBounds_ne (by omega)]
    exact h3 j x (by omega) hx

theorem L1.retire {w0 : World} {ob pb sb kb n : Nat} {inc wait : Int} {L : Nat} {bs : List Nat} {cs : List Chk} {i : Nat} {w w' : World} {c : Chk} {b : Nat} (h : L1 w0 ob pb sb kb n inc wait L bs cs i w) (hb : Below w.heap.size w w')
    (hc : cs[i]? = some c) (hbi : bs[i]? = some b) (hi : i < n) (hr : ckRet inc (L + ckN inc L (cs.take i)) c = true) : L1 w0 ob pb sb kb n inc wait L bs cs (i + 1) (w'.setCell ⟨kb + 1, i, Option.none⟩ (.bool true)) := by
  obtain ⟨K, k1, k2, k3⟩ := h.karr
  obtain ⟨V, v1, v2, v3⟩ := h.warr
  have hk : Kept (fun k => kb ≤ k) w (w'.setCell ⟨kb + 1, i, Option.none⟩ (.bool true)) := (Kept.of_below hb).setCell (Or.inl (by show kb ≤ kb + 1; omega)) _
  have k1' : w'.heap[kb]? = some (.cells K 35 (0, 0)) := by rw [hb.block kb (lt_of_block k1)]; exact k1
  have v1' : w'.heap[kb + 1]? = some (.cells V 4 (0, 0)) := by rw [hb.block _ (lt_of_block v1)]; exact v1
  refine ⟨h.base.kept hk, ⟨K, by rw [block_set_ne _ _ (by omega)]; exact k1', k2, ?_⟩, ⟨_, block_set v1' _ _, by simp [v2], ?_⟩⟩
  · rw [keep_succ inc L hc hbi, if_pos hr, List.append_nil]; exact k3
  · have hm := mark_at inc L hc
    rw [if_pos hr] at hm
    exact warr_step v2 v3 hi hm rfl

theorem L1.keep {w0 : World} {ob pb sb kb n : Nat} {inc wait : Int} {L : Nat} {bs : List Nat} {cs : List Chk} {i : Nat} {w w' : World} {c : Chk} {b : Nat} (h : L1 w0 ob pb sb kb n inc wait L bs cs i w) (hb : Below w.heap.size w w')
    (hc : cs[i]? = some c) (hbi : bs[i]? = some b) (hi : i < n) (hr : ckRet inc (L + ckN inc L (cs.take i)) c = false) (hm : (ckKeep inc L (cs.take i) (bs.take i)).length < n) :
    L1 w0 ob pb sb kb n inc wait L bs cs (i + 1) (((w'.setCell ⟨kb + 1, i, Option.none⟩ (.bool c.l)).setCell ⟨kb, (ckKeep inc L (cs.take i) (bs.take i)).length, Option.none⟩ (ptr b)).alloc (.cells #[ptr b] 35)) := by
  obtain ⟨K, k1, k2, k3⟩ := h.karr
  obtain ⟨V, v1, v2, v3⟩ := h.warr
  have hr' : ¬ ckRet inc (L + ckN inc L (cs.take i)) c = true := by simp [hr]
  have hk : Kept (fun k => kb ≤ k) w (((w'.setCell ⟨kb + 1, i, Option.none⟩ (.bool c.l)).setCell ⟨kb, (ckKeep inc L (cs.take i) (bs.take i)).length, Option.none⟩ (ptr b)).alloc (.cells #[ptr b] 35)) :=
    (((Kept.of_below hb).setCell (Or.inl (by show kb ≤ kb + 1; omega)) _).setCell (Or.inl (Nat.le_refl kb)) _).alloc _
  have k1' : w'.heap[kb]? = some (.cells K 35 (0, 0)) := by rw [hb.block kb (lt_of_block k1)]; exact k1
  have v1' : w'.heap[kb + 1]? = some (.cells V 4 (0, 0)) := by rw [hb.block _ (lt_of_block v1)]; exact v1
  refine ⟨h.base.kept hk, ⟨_, block_old _ (block_set (by rw [block_set_ne _ _ (by omega)]; exact k1') _ _), by simp [k2], ?_⟩, ⟨_, block_old _ (by rw [block_set_ne _ _ (by omega)]; exact block_set v1' _ _), by simp [v2], ?_⟩⟩
  · rw [keep_succ inc L hc hbi, if_neg hr']
    have := k3.snoc (b := b) (by rw [Nat.zero_add, k2]; exact hm)
    rwa [Nat.zero_add] at this
  · have hm := mark_at inc L hc
    rw [if_neg hr'] at hm
    exact warr_step v2 v3 hi hm rfl

theorem info35' : ∃ i, Try.prog.info? 35 = some i ∧ i.size = 1 := by
  obtain ⟨i, hi, hzz⟩ := Option.map_eq_some_iff.1 info35
  simp only [Prod.mk.injEq] at hzz
  exact ⟨i, hi, hzz.2.1⟩

/-- 'append(kept, o)' with room. -/
theorem append_one (W : World) (kb m cap ty b : Nat) (K : Array Value) (hK : W.heap[kb]? = some (.cells K 35 (0, 0))) (hsz : K.size = cap) (hm : m < cap) :
    (Builtin.append_ #[26, 26] ty #[.slice (some ⟨kb, 0, Option.none⟩) m cap, .slice (some ⟨W.heap.size, 0, Option.none⟩) 1 1]).run Try.prog (W.alloc (.cells #[.pointer (some ⟨b, 0, Option.none⟩)] 35)) =
      .ok (.slice (some ⟨kb, 0, Option.none⟩) (m + 1) cap) ((W.setCell ⟨kb, m, Option.none⟩ (.pointer (some ⟨b, 0, Option.none⟩))).alloc (.cells #[.pointer (some ⟨b, 0, Option.none⟩)] 35)) := by
  obtain ⟨i, hi, hs⟩ := info35'
  have hK' := block_old (.cells #[.pointer (some ⟨b, 0, Option.none⟩)] 35) hK
  have := run_append_room_cells (P := Try.prog) (W.alloc (.cells #[.pointer (some ⟨b, 0, Option.none⟩)] 35)) 26 ty 35 i Try.underlying26 hi kb 0 m cap ⟨W.heap.size, 0, Option.none⟩ 1 1 [.pointer (some ⟨b, 0, Option.none⟩)] (by rw [hs]; rfl)
    (fun j u hj => by
      match j, hj with
      | 0, hj => simp at hj; subst hj; exact (cell_of (block_new _ _) _).trans rfl)
    (fun u hu => by simp at hu; subst hu; rfl) (by omega)
    (fun j hj => by
      simp at hj
      subst hj
      rw [cell_of hK', Array.getElem?_eq_getElem (by rw [hs]; omega)]
      rfl)
    (fun j hj => free_of hK' _)
  rw [this, hs]
  simp only [World.setCells, Nat.mul_one, Nat.zero_add]
  rw [World.setCell_alloc_past _ _ _ _ (lt_of_block hK)]


/-- What the round needs of the two arrays, behind the call of zzDue. -/
theorem L1.arrays {w0 : World} {ob pb sb kb n : Nat} {inc wait : Int} {L : Nat} {bs : List Nat} {cs : List Chk} {i : Nat} {w w' : World} (h : L1 w0 ob pb sb kb n inc wait L bs cs i w) (hb : Below w.heap.size w w') (hi : i < n) :
    (∃ old, w'.cell? ⟨kb + 1, i, Option.none⟩ = some old) ∧ w'.frozen? ⟨kb + 1, i, Option.none⟩ = false ∧ (∃ K, w'.heap[kb]? = some (.cells K 35 (0, 0)) ∧ K.size = n) ∧ ∀ b ∈ bs, b ≠ kb ∧ b ≠ kb + 1 ∧ w'.heap[b]? = w.heap[b]? := by
  obtain ⟨K, k1, k2, k3⟩ := h.karr
  obtain ⟨V, v1, v2, v3⟩ := h.warr
  have v1' : w'.heap[kb + 1]? = some (.cells V 4 (0, 0)) := by rw [hb.block _ (lt_of_block v1)]; exact v1
  refine ⟨⟨V[i]'(by omega), ?_⟩, free_of v1' _, ⟨K, by rw [hb.block kb (lt_of_block k1)]; exact k1, k2⟩, fun b hm => ?_⟩
  · rw [cell_of v1', Array.getElem?_eq_getElem (by omega)]
  · have := (h.base.lts b (Or.inr (Or.inr (Or.inr hm)))).2
    obtain ⟨c, hc⟩ := h.base.objs.mem b hm
    exact ⟨by omega, by omega, hb.block b (lt_of_block hc)⟩


theorem L1.want {w0 : World} {ob pb sb kb n : Nat} {inc wait : Int} {L : Nat} {bs : List Nat} {cs : List Chk} {i j : Nat} {w : World} {m : Chk} (h : L1 w0 ob pb sb kb n inc wait L bs cs i w) (hj : j < i) (hm : (ckMark inc L cs)[j]? = some m) :
    w.cell? ⟨kb + 1, j, Option.none⟩ = some (.bool m.l) := by
  obtain ⟨V, v1, v2, v3⟩ := h.warr
  rw [cell_of v1]
  exact v3 j m hj hm


theorem L1.pair {w0 : World} {ob pb sb kb n : Nat} {inc wait : Int} {L : Nat} {bs : List Nat} {cs : List Chk} {j : Nat} {w : World} (h : L1 w0 ob pb sb kb n inc wait L bs cs n w) (hcs : cs.length = n) (hbs : bs.length = n) (hj : j < (ckKeep inc L cs bs).length) :
    ∃ x, w.cell? ⟨pb, j, Option.none⟩ = some (.pointer (some ⟨x, 0, Option.none⟩)) ∧ w.cell? ⟨kb, j, Option.none⟩ = some (.pointer (some ⟨x, 0, Option.none⟩)) := by
  obtain ⟨K, k1, k2, k3⟩ := h.karr
  obtain ⟨A, a1, a2, a3⟩ := h.base.arr2
  rw [List.take_of_length_le (by omega), List.take_of_length_le (by omega)] at k3
  have hx : (ckKeep inc L cs bs)[j]? = some (ckKeep inc L cs bs)[j] := List.getElem?_eq_getElem hj
  refine ⟨(ckKeep inc L cs bs)[j], ?_, ?_⟩
  · rw [cell_of a1]
    have := a3 j _ hx
    rwa [Nat.zero_add] at this
  · rw [cell_of k1]
    have := k3 j _ hx
    rwa [Nat.zero_add] at this

theorem L1.lot {w0 : World} {ob pb sb kb n : Nat} {inc wait : Int} {L : Nat} {bs : List Nat} {cs : List Chk} {i : Nat} {w : World} (h : L1 w0 ob pb sb kb n inc wait L bs cs i w) (hbs : bs.length = n) (hmax : n ≤ 65536) (hL : L ≤ 15) :
    Lot w sb pb n wait (L + ckN inc L cs) (ckKeep inc L cs bs) (ckKeep inc L cs (ckMark inc L cs)) := by
  have hN := ckN_eq inc cs L hL
  refine ⟨keep_objs inc cs bs _ L h.base.objs, (keep_sub inc cs bs L).nodup h.base.nodup, h.base.slot, h.base.arr2, ?_, hmax, by omega⟩
  have := (keep_sub inc cs bs L).length_le
  omega

theorem L1.again {w0 : World} {ob pb sb kb n : Nat} {inc wait : Int} {L : Nat} {bs : List Nat} {cs : List Chk} {i : Nat} {w w' : World} (h : L1 w0 ob pb sb kb n inc wait L bs cs i w) (hop : ob ≠ pb) (ha : Again w sb pb n wait (L + ckN inc L cs) (ckKeep inc L cs bs) w') :
    L1 w0 ob pb sb kb n inc wait L bs cs i w' := by
  obtain ⟨K, k1, k2, k3⟩ := h.karr
  obtain ⟨V, v1, v2, v3⟩ := h.warr
  obtain ⟨A1, a1, a2, a3⟩ := h.base.arr1
  obtain ⟨A2, b1, b2, b3⟩ := h.base.arr2
  have lsb := h.base.lts sb (Or.inr (Or.inr (Or.inl rfl)))
  have lpb := h.base.lts pb (Or.inr (Or.inl rfl))
  have nos : ob ≠ sb := (ne_of h.base.slot a1 (by decide)).symm
  refine ⟨⟨?_, ⟨A1, ha.kept.at a1 (by rintro (e | e); exact nos e; exact hop e), a2, a3⟩, ha.arr, h.base.objs.congr fun b hb => ?_, ha.slot, h.base.nodup, h.base.lts, h.base.w0kb⟩, ⟨K, ha.kept.at k1 (by omega), k2, k3⟩, ⟨V, ha.kept.at v1 (by omega), v2, v3⟩⟩
  · refine h.base.below.trans (ha.kept.below h.base.below.size ?_)
    rintro k (rfl | rfl)
    · exact lsb.1
    · exact lpb.1
  · obtain ⟨c, hc⟩ := h.base.objs.mem b hb
    rw [ha.kept.at hc ?_, hc]
    rintro (e | e)
    · subst e; exact ne_of hc h.base.slot (by decide) rfl
    · subst e; exact ne_of hc b1 (by decide) rfl

end Go.Proofs.Qxb6625896a.One
