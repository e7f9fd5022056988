/-
  slices.Compare, slices.Clone, slices.SortFunc over groups, in this seat's words.
-/
import Derived.Test.Qxb6626223aLib2
namespace Go.Proofs.Qxb6626223a.LibC
open Go.RowKit
open Go.Proofs.Qxb6626223a.MapsV
open Go.Proofs.Qxb6626223a.Canon
open Go.Proofs.Qxb6626223a.Frame Go.Proofs.Qxb6626223a.Order Go.Proofs.Qxb6626223a.Find Go.Proofs.Qxb6626223a.RowsS Go.Proofs.Qxb6626223a.Insert Go.Proofs.Qxb6626223a.Agents Go.Proofs.Qxb6626223a.Same Go.Proofs.Qxb6626223a.Nest Go.Proofs.Qxb6626223a.Index Go.Proofs.Qxb6626223a.Mat
open Go.Sort (grow putRow Holds)
set_option linter.unusedVariables false
set_option linter.unusedSimpArgs false

theorem cmpL_cons (a b : ByteArray) (r s : List ByteArray) : cmpL (a :: r) (b :: s) = if cmpS a b = 0 then cmpL r s else cmpS a b := by
  show (if slt a b then -1 else if slt b a then 1 else cmpL r s) = _
  unfold cmpS
  by_cases h1 : slt a b
  · simp [h1]
  · by_cases h2 : slt b a <;> simp [h1, h2]
theorem cmpL_drop {l1 l2 : List ByteArray} {i : Nat} {a b : ByteArray} (h1 : l1[i]? = some a) (h2 : l2[i]? = some b) : cmpL (l1.drop i) (l2.drop i) = if cmpS a b = 0 then cmpL (l1.drop (i + 1)) (l2.drop (i + 1)) else cmpS a b := by
  obtain ⟨x1, x2⟩ := List.getElem?_eq_some_iff.1 h1
  obtain ⟨y1, y2⟩ := List.getElem?_eq_some_iff.1 h2
  rw [List.drop_eq_getElem_cons x1, x2, List.drop_eq_getElem_cons y1, y2, cmpL_cons]
theorem cmpL_long {l1 l2 : List ByteArray} {i : Nat} (h1 : i < l1.length) (h2 : l2.length ≤ i) : cmpL (l1.drop i) (l2.drop i) = 1 := by
  rw [List.drop_eq_getElem_cons h1, List.drop_eq_nil_of_le h2]
  rfl
theorem cmpL_short {l1 l2 : List ByteArray} {i : Nat} (h1 : l1.length ≤ i) (h2 : i < l2.length) : cmpL (l1.drop i) (l2.drop i) = -1 := by
  rw [List.drop_eq_getElem_cons h2, List.drop_eq_nil_of_le h1]
  rfl
theorem cmpL_end {l1 l2 : List ByteArray} {i : Nat} (h1 : l1.length ≤ i) (h2 : l2.length ≤ i) : cmpL (l1.drop i) (l2.drop i) = 0 := by
  rw [List.drop_eq_nil_of_le h1, List.drop_eq_nil_of_le h2]
  rfl

set_option maxHeartbeats 1000000 in
set_option maxRecDepth 100000 in
theorem compare_any (ao bo : Option Addr) (n m ca cb : Nat) (l1 l2 : List ByteArray) (w : World) (ha : At w ao (strs l1)) (hb : At w bo (strs l2)) (hn : l1.length = n) (hm : l2.length = m) (hn2 : n ≤ 65536) (hm2 : m ≤ 65536) :
    Calls Try.prog 19 #[.slice ao n ca, .slice bo m cb] w fun e w' => e = .returned (.int .i64 (cmpL l1 l2)) ∧ w' = w := by
  have HA : Hid (At w ao (strs l1)) := ha
  have HB : Hid (At w bo (strs l2)) := hb
  have HN : Hid (l1.length = n) := hn
  have HM : Hid (l2.length = m) := hm
  obtain ⟨c, hc⟩ : ∃ c, cmpL l1 l2 = c := ⟨_, rfl⟩
  have HC0 : Hid (c = cmpL (l1.drop 0) (l2.drop 0)) := hc.symm
  rw [hc]
  clear ha hb hn hm hc
  go_enter Try.func19, Try.ntmps19
  go_wp2
  go_loop [11] (fun xv => ∃ i : Nat, i ≤ n ∧ i ≤ m ∧ xv = .int .i64 i ∧ Hid (c = cmpL (l1.drop i) (l2.drop i))) (fun xv => n - (intOf xv).toNat)
  case atStart => exact ⟨0, Nat.zero_le _, Nat.zero_le _, by go_num, HC0⟩
  case round =>
    clear HC0
    obtain ⟨i, hi, hj, rfl, HC⟩ := hrel
    by_cases hlt : i < n
    · obtain ⟨a, h1⟩ : ∃ a, l1[i]? = some a := ⟨_, List.getElem?_eq_getElem (by rw [HN.out]; exact hlt)⟩
      obtain ⟨g, off, rfl, d1⟩ := HA.out i (.string a) (by simp [strs, h1])
      by_cases hlt2 : i < m
      · obtain ⟨b, h2⟩ : ∃ b, l2[i]? = some b := ⟨_, List.getElem?_eq_getElem (by rw [HM.out]; exact hlt2)⟩
        obtain ⟨g2, off2, rfl, d2⟩ := HB.out i (.string b) (by simp [strs, h2])
        have e1 := cmpL_drop h1 h2
        have CS := compareS_any a b w
        obtain ⟨z, hz⟩ : ∃ z, cmpS a b = z := ⟨_, rfl⟩
        rw [hz] at e1 CS
        have HE : Hid (cmpL (l1.drop i) (l2.drop i) = if z = 0 then cmpL (l1.drop (i + 1)) (l2.drop (i + 1)) else z) := e1
        clear h1 h2 e1 hz
        go_wp2_with fail
        refine CS.mono ?_
        rintro e w' ⟨rfl, hw⟩
        obtain rfl := hw.symm
        clear CS hw
        by_cases hz : z = 0
        · have HC2 : Hid (c = cmpL (l1.drop (i + 1)) (l2.drop (i + 1))) := by
            show c = _
            rw [HC.out, HE.out, if_pos hz]
          subst hz
          clear HC HE
          go_wp2
          go_round
          case rel => exact ⟨i + 1, by omega, by omega, by go_num, HC2⟩
          case measure => simp [intOf]; omega
        · have HC2 : Hid (c = z) := by
            show c = _
            rw [HC.out, HE.out, if_neg hz]
          clear HC HE
          go_wp2
          go_ret
          exact ⟨by rw [HC2.out]; rfl, rfl⟩
      · have HC2 : Hid (c = 1) := by
          show c = _
          rw [HC.out]
          exact cmpL_long (by rw [HN.out]; exact hlt) (by rw [HM.out]; omega)
        clear h1 HC
        go_wp2
        go_ret
        exact ⟨by rw [HC2.out]; rfl, rfl⟩
    · obtain rfl : i = n := by omega
      by_cases hlt2 : i < m
      · have HC2 : Hid (c = -1) := by
          show c = _
          rw [HC.out]
          exact cmpL_short (by rw [HN.out]; exact Nat.le_refl _) (by rw [HM.out]; exact hlt2)
        clear HC
        go_wp2
        go_ret
        exact ⟨by rw [HC2.out]; rfl, rfl⟩
      · have HC2 : Hid (c = 0) := by
          show c = _
          rw [HC.out]
          exact cmpL_end (by rw [HN.out]; exact Nat.le_refl _) (by rw [HM.out]; omega)
        clear HC
        go_wp2
        go_ret
        exact ⟨by rw [HC2.out]; rfl, rfl⟩

theorem own_zero (w : World) (e : TypeId) : (w.alloc (.cells #[] e)).ownsRow 0 e 1 (.slice (some ⟨w.heap.size, 0, Option.none⟩) 0 0) 0 [] :=
  ⟨rfl, .inr ⟨w.heap.size, 0, _, rfl, Nat.zero_le _, block_new _ _, Nat.le_refl _, Nat.zero_le _, rfl, rfl⟩⟩

set_option maxHeartbeats 1000000 in
set_option maxRecDepth 100000 in
theorem clone_any (g off n cap : Nat) (l : List ByteArray) (w : World) (ha : At w (some ⟨g, off, Option.none⟩) (strs l)) (hl : l.length = n) (hn : n ≤ 65536) (hp : 0 < n) :
    Calls Try.prog 14 #[.slice (some ⟨g, off, Option.none⟩) n cap] w fun e w' => ∃ g' cap', e = .returned (.slice (some ⟨g', 0, Option.none⟩) n cap') ∧ OwnS w' (.slice (some ⟨g', 0, Option.none⟩) n cap') l ∧ Kept nothing w w' ∧ w.heap.size ≤ g' := by
  obtain ⟨i, hi, hz, hs, hb⟩ := info_parts info9
  have src : Src Try.prog 1 34 (.slice (some ⟨g, off, Option.none⟩) n cap) n (strs l) (w.alloc (.cells #[] 9)) :=
    Src.ofSlice (w.alloc (.cells #[] 9)) Try.underlying34 ⟨g, off, Option.none⟩ n cap (strs l) (by rw [strs_len, hl, Nat.mul_one]) (fun j u hj => by
      obtain ⟨g2, off2, e, hc⟩ := ha j u hj
      simp only [Option.some.injEq, Addr.mk.injEq, and_true] at e
      obtain ⟨rfl, rfl⟩ := e
      rw [Addr.add_lit]
      exact ((Kept.refl nothing w).alloc _).cell hc id) (fun u hu => by
      simp only [strs, List.mem_map] at hu
      obtain ⟨s, _, rfl⟩ := hu
      rfl)
  obtain ⟨v', w1, hrun, o1, k1, on1⟩ := run_append_owns (P := Try.prog) (w.alloc (.cells #[] 9)) 34 34 34 9 i _ 1 16 Try.underlying34 hi hz hs hb rfl (by decide) _ 0 [] (own_zero w 9) _ n (strs l) src (by unfold maxLen; omega) (by omega)
  rw [Nat.zero_add, List.nil_append] at o1
  obtain ⟨g', cap', rfl⟩ := own_some' o1 hp
  have HRUN : Hid ((Builtin.append_ #[34, 34] 34 #[.slice (some ⟨w.heap.size, 0, Option.none⟩) 0 0, .slice (some ⟨g, off, Option.none⟩) n cap]).run Try.prog (w.alloc (.cells #[] 9)) = .ok (.slice (some ⟨g', 0, Option.none⟩) n cap') w1) := hrun
  have HO : Hid (OwnS w1 (.slice (some ⟨g', 0, Option.none⟩) n cap') l) := by
    show OwnS _ _ _
    unfold OwnS
    rw [hl]
    exact o1
  have HK : Hid (Kept nothing w w1) := Kept.fresh (v := .slice (some ⟨w.heap.size, 0, Option.none⟩) 0 0) (wr := w.alloc (.cells #[] 9)) ((Kept.refl _ _).alloc _) (fun k hk => by simp [Value.ownBlock] at hk; omega) k1
  have HG : Hid (w.heap.size ≤ g') := by
    rcases on1 with e | ⟨g2, e, hg2⟩
    · simp [Value.ownBlock] at e
      subst e
      exact Nat.le_refl _
    · simp [Value.ownBlock] at e
      subst e
      rw [World.size_alloc] at hg2
      exact Nat.le_of_succ_le hg2
  clear hrun o1 k1 on1 src ha hi hz hs hb
  have hq : ∀ W : World, (binOp .eql 34 (.slice (some ⟨g, off, Option.none⟩) n cap) (.slice Option.none 0 0)).run Try.prog W = .ok (.bool false) W := fun W => by kernel_rfl
  go_enter Try.func14, Try.ntmps14
  go_wp2_with (at_builtin; refine wpList_append_run _ rfl (.tmp 5) (.tmp 6) 34 34 rfl _ _ _ w1 rfl rfl HRUN.out ?_)
  go_ret
  exact ⟨_, _, rfl, HO.out, HK.out, HG.out⟩

end Go.Proofs.Qxb6626223a.LibC
