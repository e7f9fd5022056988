/-
  PLAIN: what both laws say of the lists; and what a second run finds.
-/
import Derived.Test.Qxb6625896aBuild
import Derived.LaidEql
namespace Go.Proofs.Qxb6625896a.Plain2
open Go.RowKit
open Go.Proofs.Qxb6625896a.Plain Go.Proofs.Qxb6625896a.Frame Go.Proofs.Qxb6625896a.Parts Go.Proofs.Qxb6625896a.Heap Go.Proofs.Qxb6625896a.Delete Go.Proofs.Qxb6625896a.Mark
set_option linter.unusedVariables false
set_option linter.unusedSimpArgs false

theorem split_at {α : Type} {l : List α} {i : Nat} {c : α} (h : l[i]? = some c) : l = l.take i ++ c :: l.drop (i + 1) := by
  obtain ⟨h1, h2⟩ := List.getElem?_eq_some_iff.1 h
  rw [← h2, ← List.drop_eq_getElem_cons h1, List.take_append_drop]

theorem mark_at (inc : Int) (L : Nat) {cs : List Chk} {i : Nat} {c : Chk} (h : cs[i]? = some c) :
    (ckMark inc L cs)[i]? = some (if ckRet inc (L + ckN inc L (cs.take i)) c = true then { c with l := true } else c) := by
  have hi := (List.getElem?_eq_some_iff.1 h).1
  have e := split_at h
  have hl : (ckMark inc L (cs.take i)).length = i := by rw [ckMark_length, List.length_take]; omega
  have : ckMark inc L cs = ckMark inc L (cs.take i) ++ ckMark inc (L + ckN inc L (cs.take i)) (c :: cs.drop (i + 1)) := by rw [← ckMark_append, ← e]
  rw [this, List.getElem?_append_right (by omega), hl, Nat.sub_self, ckMark_cons]
  split <;> rfl

theorem dues_split (inc : Int) {cs : List Chk} {i : Nat} {c : Chk} (h : cs[i]? = some c) : ckDues inc cs = ckDues inc (cs.take i) + ((if ckDue inc c = true then 1 else 0) + ckDues inc (cs.drop (i + 1))) := by
  have e := split_at h
  have : ckDues inc cs = ckDues inc (cs.take i ++ c :: cs.drop (i + 1)) := by rw [← e]
  rw [this]
  simp only [ckDues, List.countP_append, List.countP_cons]
  omega

theorem ret_at (inc : Int) (L : Nat) {cs : List Chk} {i : Nat} {c : Chk} (h : cs[i]? = some c) (hL : L ≤ 15) :
    ckRet inc (L + ckN inc L (cs.take i)) c = (ckDue inc c && decide (ckDues inc (cs.take i) < ckN inc L cs)) := by
  rw [ckRet]
  cases hd : ckDue inc c
  · rfl
  · have h1 := dues_split inc h
    rw [hd, if_pos rfl] at h1
    rw [ckN_eq inc cs L hL, ckN_eq inc (cs.take i) L hL, Bool.true_and, Bool.true_and, decide_eq_decide]
    omega

theorem dues_succ (inc : Int) {cs : List Chk} {i : Nat} {c : Chk} (h : cs[i]? = some c) : ckDues inc (cs.take (i + 1)) = ckDues inc (cs.take i) + if ckDue inc c = true then 1 else 0 := by
  rw [List.take_add_one, h]
  simp [ckDues, List.countP_append, List.countP_cons]

theorem keep_succ {α : Type} (inc : Int) (L : Nat) {cs : List Chk} {bs : List α} {i : Nat} {c : Chk} {b : α} (h : cs[i]? = some c) (hb : bs[i]? = some b) :
    ckKeep inc L (cs.take (i + 1)) (bs.take (i + 1)) = ckKeep inc L (cs.take i) (bs.take i) ++ if ckRet inc (L + ckN inc L (cs.take i)) c = true then [] else [b] := by
  have h1 := (List.getElem?_eq_some_iff.1 h).1
  have h2 := (List.getElem?_eq_some_iff.1 hb).1
  rw [List.take_add_one, List.take_add_one, h, hb]
  exact one_keep inc L _ _ _ _ (by simp; omega)

theorem keep_sub {α : Type} (inc : Int) : ∀ (cs : List Chk) (bs : List α) (L : Nat), (ckKeep inc L cs bs).Sublist bs
  | [], bs, L => by rw [show ckKeep inc L [] bs = [] from by cases bs <;> rfl]; exact List.nil_sublist _
  | c :: r, [], L => by rw [show ckKeep inc L (c :: r) ([] : List α) = [] from rfl]; exact List.nil_sublist _
  | c :: r, b :: bs, L => by
    rw [ckKeep_cons]
    split
    · exact (keep_sub inc r bs (L + 1)).cons b
    · exact (keep_sub inc r bs L).cons_cons b

theorem keep_objs {w : World} (inc : Int) : ∀ (cs : List Chk) (bs : List Nat) (ms : List Chk) (L : Nat), Objs w bs ms → Objs w (ckKeep inc L cs bs) (ckKeep inc L cs ms)
  | [], bs, ms, L, h => by
    rw [show ckKeep inc L [] bs = [] from by cases bs <;> rfl, show ckKeep inc L [] ms = [] from by cases ms <;> rfl]; trivial
  | c :: r, [], [], L, h => trivial
  | c :: r, [], m :: ms, L, h => h.elim
  | c :: r, b :: bs, [], L, h => h.elim
  | c :: r, b :: bs, m :: ms, L, h => by
    rw [ckKeep_cons, ckKeep_cons]
    split
    · exact keep_objs inc r bs ms (L + 1) h.2
    · exact ⟨h.1, keep_objs inc r bs ms L h.2⟩

/-- Nothing that was kept is retired by a second run. -/
theorem keep_ret (inc : Int) : ∀ (cs : List Chk) (L : Nat), L ≤ 15 → ∀ c ∈ ckKeep inc L cs (ckMark inc L cs), ckRet inc (L + ckN inc L cs) c = false
  | [], L, _, c, hc => by simp [ckMark, ckKeep] at hc
  | d :: r, L, hL, c, hc => by
    rw [ckMark_cons] at hc
    by_cases hr : ckRet inc L d = true
    · rw [if_pos hr, ckKeep_cons, if_pos hr] at hc
      have hL' : L + 1 ≤ 15 := by
        simp only [ckRet, Bool.and_eq_true, decide_eq_true_eq] at hr
        omega
      have := keep_ret inc r (L + 1) hL' c hc
      rw [ckN_cons, if_pos hr, show L + (ckN inc (L + 1) r + 1) = L + 1 + ckN inc (L + 1) r by omega]
      exact this
    · rw [if_neg hr, ckKeep_cons, if_neg hr] at hc
      rw [ckN_cons, if_neg hr]
      rcases List.mem_cons.1 hc with rfl | hc
      · have hN := ckN_eq inc r L hL
        simp only [ckRet, Bool.and_eq_true, decide_eq_true_eq, not_and, Decidable.not_not] at hr
        cases hd : ckDue inc c
        · simp [ckRet, hd]
        · have h15 := hr hd
          subst h15
          have h0 : ckN inc 15 r = 0 := by omega
          simp [ckRet, hd, h0]
      · exact keep_ret inc r L hL c hc

theorem keep_len {α : Type} (inc : Int) (L : Nat) {cs : List Chk} {bs : List α} (h : bs.length = cs.length) : (ckKeep inc L cs bs).length = cs.length - ckN inc L cs := ckKeep_length inc cs bs L h

/-- The state that the second run finds. -/
theorem lot_again {w w' : World} {sb pb cap : Nat} {inc wait : Int} {L : Nat} {ks : List Nat} {cs : List Chk} (h : Lot w sb pb cap wait L ks cs) (hr : Ran w sb pb cap inc wait L ks cs w') :
    Lot w' sb pb cap wait (L + ckN inc L cs) (ckKeep inc L cs ks) (ckKeep inc L cs (ckMark inc L cs)) := by
  have hN := ckN_eq inc cs L h.l15
  have := h.l15
  refine ⟨keep_objs inc cs ks _ L hr.objs, (keep_sub inc cs ks L).nodup h.nodup, hr.slot, hr.arr, ?_, h.max, by omega⟩
  have := (keep_sub inc cs ks L).length_le
  have := h.le
  omega

/-- What the second run leaves: all as it was. -/
structure Again (w : World) (sb pb cap : Nat) (wait : Int) (L : Nat) (ks : List Nat) (w' : World) : Prop where
  slot : w'.heap[sb]? = some (slotObj pb ks.length cap L wait)
  arr : ∃ A, w'.heap[pb]? = some (.cells A 35 (0, 0)) ∧ A.size = cap ∧ RowA A 0 ks
  kept : Kept (fun k => k = sb ∨ k = pb) w w'

theorem again_of {w w' : World} {sb pb cap : Nat} {inc wait : Int} {L : Nat} {ks : List Nat} {cs : List Chk} (h : Lot w sb pb cap wait L ks cs) (hn : ∀ c ∈ cs, ckRet inc L c = false) (hr : Ran w sb pb cap inc wait L ks cs w') :
    Again w sb pb cap wait L ks w' := by
  have e1 := none_N inc L cs hn
  have e2 := none_mark inc L cs hn
  have e3 := none_keep inc L cs ks h.objs.length hn
  have h1 := hr.slot
  have h2 := hr.arr
  have h3 := hr.objs
  rw [e1, e3] at h1
  rw [e3] at h2
  rw [e2] at h3
  refine ⟨h1, h2, ⟨hr.kept.os, hr.kept.tape, hr.kept.output, hr.kept.size, fun k hk hs => ?_⟩⟩
  by_cases hm : k ∈ ks
  · obtain ⟨i, hi⟩ := List.mem_iff_getElem?.1 hm
    have hlt := (List.getElem?_eq_some_iff.1 hi).1
    have hlen := h.objs.length
    have hc : cs[i]? = some cs[i] := List.getElem?_eq_getElem (by omega)
    rw [h3.at hi hc, h.objs.at hi hc]
  · refine hr.kept.block k hk fun ho => ?_
    rcases ho with ho | ho | ho
    · exact hs (Or.inl ho)
    · exact hs (Or.inr ho)
    · exact hm ho


/-! ### '!=' on two pointers to checks -/
theorem info50 : ∃ j, Try.prog.info? 50 = some j ∧ j.size ≠ 0 := by
  have h : (Try.prog.info? 50).map (fun i => i.size) = some 3 := by kernel_rfl
  obtain ⟨i, hi, hs⟩ := Option.map_eq_some_iff.1 h
  exact ⟨i, hi, by rw [hs]; decide⟩
theorem ptr_neq_same (w : World) (a : Addr) : (binOp .neq 35 (.pointer (some a)) (.pointer (some a))).run Try.prog w = .ok (.bool false) w := by
  obtain ⟨j, hj, hs⟩ := info50
  have h : ∀ d : Nat, (Op.equalIn (d + 1) 35 (.pointer (some a)) (.pointer (some a))).run Try.prog w = .ok true w := fun d => by
    simp [Op.equalIn, run_underlying Try.underlying35, sizeOf, typeInfo, hj, run_sameAddr_same]
  simp only [binOp]
  simp [Op.equal, Op.maxDepth, h 9999]
theorem ptr_neq_other {w : World} {b k : Nat} {c d : Chk} (hb : w.heap[b]? = some (chkObj c)) (hk : w.heap[k]? = some (chkObj d)) (hne : b ≠ k) :
    (binOp .neq 35 (.pointer (some ⟨b, 0, Option.none⟩)) (.pointer (some ⟨k, 0, Option.none⟩))).run Try.prog w = .ok (.bool true) w := by
  obtain ⟨j, hj, hs⟩ := info50
  have h : ∀ d : Nat, (Op.equalIn (d + 1) 35 (.pointer (some ⟨b, 0, Option.none⟩)) (.pointer (some ⟨k, 0, Option.none⟩))).run Try.prog w = .ok false w := fun d => by
    have := run_sameAddr_other (P := Try.prog) w (a := ⟨b, 0, Option.none⟩) (b := ⟨k, 0, Option.none⟩) (by simp [hne]) hb hk
    simp [Op.equalIn, run_underlying Try.underlying35, sizeOf, typeInfo, hj, hs, this]
  simp only [binOp]
  simp [Op.equal, Op.maxDepth, h 9999]

end Go.Proofs.Qxb6625896a.Plain2
