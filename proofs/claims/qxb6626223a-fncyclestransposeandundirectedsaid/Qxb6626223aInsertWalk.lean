/-
  THE WALK of zzInsert.
-/
import Derived.Test.Qxb6626223aInsert
namespace Go.Proofs.Qxb6626223a.Insert
open Go.RowKit
open Go.Proofs.Qxb6626223a.Frame Go.Proofs.Qxb6626223a.Order Go.Proofs.Qxb6626223a.Find Go.Proofs.Qxb6626223a.RowsS
set_option linter.unusedVariables false
set_option linter.unusedSimpArgs false

theorem own_shape {w : World} {v : Value} {l : List ByteArray} (h : OwnS w v l) : ∃ ao cap, v = .slice ao l.length cap ∧ At w ao (strs l) := by
  obtain ⟨ao, cap, e, _, _, ha, _⟩ := own_at h
  exact ⟨ao, cap, e, ha⟩

theorem own_some {w : World} {v : Value} {l : List ByteArray} (h : OwnS w v l) (hl : 0 < l.length) : ∃ g cap, v = .slice (some ⟨g, 0, Option.none⟩) l.length cap := by
  rcases h.2 with ⟨_, h0⟩ | ⟨g, cap, cur, e, _⟩
  · omega
  · exact ⟨g, cap, e⟩

set_option maxHeartbeats 4000000 in
set_option maxRecDepth 100000 in
theorem insert_any (sv : Value) (l : List ByteArray) (x : ByteArray) (w : World) (ho : OwnS w sv l) (hn : l.length ≤ 4194304) (hsrt : l.Pairwise slt) :
    Calls Try.prog 29 #[sv, .string x] w fun e w' => ∃ v' l', e = .returned v' ∧ OwnS w' v' l' ∧ InsOf l x l' ∧ Kept (rowOf sv) w w' ∧ Onward w sv v' := by
  obtain ⟨ao, cap, rfl, ha⟩ := own_shape ho
  have HO : Hid (OwnS w (.slice ao l.length cap) l) := ho
  have HA : Hid (At w ao (strs l)) := ha
  have HS : Hid (l.Pairwise slt) := hsrt
  have FD := find_any ao l.length cap l x w ha rfl hn hsrt
  obtain ⟨n, hl⟩ : ∃ n, l.length = n := ⟨_, rfl⟩
  have HL : Hid (l.length = n) := hl
  rw [hl] at HO FD hn ⊢
  clear ho ha hsrt hl
  go_enter Try.func29, Try.ntmps29
  go_wp2_with fail
  refine FD.mono ?_
  rintro e w' ⟨⟨k, rfl, hp⟩, hw⟩
  obtain rfl := hw.symm
  clear FD
  have HP : Hid (IsPlace l x k) := hp
  have hk : k ≤ n := by have := hp.1; rw [HL.out] at this; exact this
  clear hp
  by_cases hin : l[k]? = some x
  · have hkn : k < n := by have := (List.getElem?_eq_some_iff.1 hin).1; rw [HL.out] at this; exact this
    obtain ⟨g, off, rfl, d1⟩ := HA.out k (.string x) (by simp [strs, hin])
    have HIN : Hid (x ∈ l) := List.mem_of_getElem? hin
    have k1 : (k : Int) < (n : Int) := by omega
    clear hin
    go_wp2
    go_ret
    exact ⟨_, l, rfl, by rw [← HL.out] at *; exact HO.out, ins_there HS.out HIN.out, Kept.refl _ _, Onward.refl _ _⟩
  · have INS : Hid (InsOf l x (holed l k x)) := ins_new HS.out HP.out hin
    obtain ⟨v', w1, hrun, o1, kp1, on1⟩ := push_s (w := w) (v := .slice ao n cap) (l := l) HO.out ⟨#[]⟩ (by rw [HL.out]; omega)
    obtain ⟨g, cap', hv'⟩ := own_some o1 (by simp)
    rw [List.length_append, HL.out] at hv'
    subst hv'
    have HRUN : Hid ((Builtin.append_ #[34, 34] 34 #[.slice ao n cap, .slice (some ⟨w.heap.size, 0, Option.none⟩) 1 1]).run Try.prog (w.alloc (.cells #[.string ⟨#[]⟩] 9)) = .ok (.slice (some ⟨g, 0, Option.none⟩) (n + 1) cap') w1) := hrun
    have hg : rowOf (.slice ao n cap) g ∨ w.heap.size ≤ g := by
      rcases on1 with e | ⟨g', e, hg'⟩
      · exact .inl (by unfold rowOf; rw [← e]; rfl)
      · simp [Value.ownBlock] at e; subst e; exact .inr hg'
    have HG : Hid (rowOf (.slice ao n cap) g ∨ w.heap.size ≤ g) := hg
    have ON : Hid (Onward w (.slice ao n cap) (.slice (some ⟨g, 0, Option.none⟩) (n + 1) cap')) := on1
    have O1 : Hid (OwnS w1 (.slice (some ⟨g, 0, Option.none⟩) (n + 1) cap') (holed l n ⟨#[]⟩)) := by
      show OwnS _ _ _
      rw [← HL.out, holed_end]
      have := o1
      rw [← HL.out] at this
      exact this
    have K1 : Hid (Kept (rowOf (.slice ao n cap)) w w1) := kp1
    clear hrun o1 kp1 on1 hg
    have GO : ∀ ao', ao' = ao → (k < n → ∃ g0 off s, ao' = some ⟨g0, off, Option.none⟩ ∧ w.cell? ⟨g0, off + k, Option.none⟩ = some (.string s) ∧ (s.toList == x.toList) = false) := by
      rintro ao' rfl hkn
      obtain ⟨s, hs⟩ : ∃ s, l[k]? = some s := ⟨_, List.getElem?_eq_getElem (by rw [HL.out]; exact hkn)⟩
      obtain ⟨g0, off, e, d1⟩ := HA.out k (.string s) (by simp [strs, hs])
      refine ⟨g0, off, s, e, d1, ?_⟩
      refine beq_eq_false_iff_ne.2 fun e => hin ?_
      rw [ByteArray.toList_eq, ByteArray.toList_eq] at e
      rw [hs, WideShapes.bytes_inj e]
    have GO' := GO ao rfl
    clear GO hin HA
    by_cases hkn : k < n
    · obtain ⟨g0, off, s, rfl, d1, f1⟩ := GO' hkn
      have k1 : (k : Int) < (n : Int) := by omega
      go_wp2_with (at_builtin; refine wpList_append_run _ rfl (.tmp 23) (.tmp 24) 34 34 rfl _ _ _ w1 rfl rfl HRUN.out ?_)
      go_loopw [6] (fun jv wr => ∃ (j : Nat) (hole : ByteArray), k ≤ j ∧ j ≤ n ∧ jv = .int .i64 j ∧ Hid (OwnS wr (.slice (some ⟨g, 0, Option.none⟩) (n + 1) cap') (holed l j hole)) ∧ Hid (Kept (rowOf (.slice (some ⟨g0, off, Option.none⟩) n cap)) w wr)) (fun jv _ => (intOf jv).toNat)
      case atStart => exact ⟨n, _, hk, Nat.le_refl _, by go_num, O1, K1⟩
      case round =>
        obtain ⟨j, hole, hkj, hjn, rfl, O2, K2⟩ := hrel
        by_cases hlt : k < j
        · obtain ⟨s', hs'⟩ : ∃ s', l[j - 1]? = some s' := ⟨_, List.getElem?_eq_getElem (by rw [HL.out]; omega)⟩
          have HLN : (holed l j hole).length = n + 1 := by rw [holed_len (by rw [HL.out]; exact hjn), HL.out]
          have OR := O2.out
          unfold OwnS at OR
          rw [HLN] at OR
          obtain ⟨c1, x1⟩ := own_cell OR (i := j - 1) (x := .string s') (by
            have := holed_at l (i := j - 1) (j := j) (by omega) (by rw [HL.out]; exact hjn) hole
            simp [strs, this, hs'])
          obtain ⟨u2, hu2⟩ : ∃ u, (strs (holed l j hole))[j]? = some u := ⟨_, List.getElem?_eq_getElem (by rw [strs_len, HLN]; omega)⟩
          obtain ⟨c2, x2⟩ := own_cell OR hu2
          obtain ⟨i, rfl⟩ : ∃ i, j = i + 1 := ⟨j - 1, by omega⟩
          have O3 : Hid (OwnS (wr.setCell ⟨g, i + 1, Option.none⟩ (.string s')) (.slice (some ⟨g, 0, Option.none⟩) (n + 1) cap') (holed l i s')) := by
            have := OwnS.set O2.out HLN (i := i + 1) (by omega) s'
            rw [holed_set l (by rw [HL.out]; exact hjn)] at this
            exact (holed_down l (j := i) (by simpa using hs')) ▸ this
          have K3 : Hid (Kept (rowOf (.slice (some ⟨g0, off, Option.none⟩) n cap)) w (wr.setCell ⟨g, i + 1, Option.none⟩ (.string s'))) := K2.out.setCell HG.out _
          rw [show i + 1 - 1 = i by omega] at c1 x1
          clear OR hs' hu2
          go_wp2
          go_roundw
          case rel => exact ⟨i, s', by omega, by omega, by go_num, O3, K3⟩
          case measure => simp [intOf] <;> omega
        · obtain rfl : j = k := by omega
          have HLN : (holed l j hole).length = n + 1 := by rw [holed_len (by rw [HL.out]; exact hjn), HL.out]
          have OR := O2.out
          unfold OwnS at OR
          rw [HLN] at OR
          obtain ⟨u2, hu2⟩ : ∃ u, (strs (holed l j hole))[j]? = some u := ⟨_, List.getElem?_eq_getElem (by rw [strs_len, HLN]; omega)⟩
          obtain ⟨c2, x2⟩ := own_cell OR hu2
          have O3 : Hid (OwnS (wr.setCell ⟨g, j, Option.none⟩ (.string x)) (.slice (some ⟨g, 0, Option.none⟩) (n + 1) cap') (holed l j x)) := by
            have := OwnS.set O2.out HLN (i := j) (by omega) x
            rw [holed_set l (by rw [HL.out]; exact hjn)] at this
            exact this
          have K3 : Hid (Kept (rowOf (.slice (some ⟨g0, off, Option.none⟩) n cap)) w (wr.setCell ⟨g, j, Option.none⟩ (.string x))) := K2.out.setCell HG.out _
          clear OR hu2
          go_wp2
          go_ret
          exact ⟨_, _, rfl, O3.out, INS.out, K3.out, ON.out⟩
    · obtain rfl : k = n := by omega
      clear GO'
      go_wp2_with (at_builtin; refine wpList_append_run _ rfl (.tmp 23) (.tmp 24) 34 34 rfl _ _ _ w1 rfl rfl HRUN.out ?_)
      go_loopw [6] (fun jv wr => jv = .int .i64 k ∧ Hid (wr = w1)) (fun jv _ => (intOf jv).toNat)
      case atStart => exact ⟨by go_num, rfl⟩
      case round =>
        obtain ⟨rfl, HW⟩ := hrel
        obtain rfl := HW.out
        have HLN : (holed l k ⟨#[]⟩).length = k + 1 := by rw [holed_len (by rw [HL.out]; exact Nat.le_refl _), HL.out]
        have OR := O1.out
        unfold OwnS at OR
        rw [HLN] at OR
        obtain ⟨u2, hu2⟩ : ∃ u, (strs (holed l k ⟨#[]⟩))[k]? = some u := ⟨_, List.getElem?_eq_getElem (by rw [strs_len, HLN]; omega)⟩
        obtain ⟨c2, x2⟩ := own_cell OR hu2
        have O3 : Hid (OwnS (wr.setCell ⟨g, k, Option.none⟩ (.string x)) (.slice (some ⟨g, 0, Option.none⟩) (k + 1) cap') (holed l k x)) := by
          have := OwnS.set O1.out HLN (i := k) (by omega) x
          rw [holed_set l (by rw [HL.out]; exact Nat.le_refl _)] at this
          exact this
        have K3 : Hid (Kept (rowOf (.slice ao k cap)) w (wr.setCell ⟨g, k, Option.none⟩ (.string x))) := K1.out.setCell HG.out _
        clear OR hu2
        go_wp2
        go_ret
        exact ⟨_, rfl, _, O3.out, INS.out, K3.out, ON.out⟩

end Go.Proofs.Qxb6626223a.Insert
