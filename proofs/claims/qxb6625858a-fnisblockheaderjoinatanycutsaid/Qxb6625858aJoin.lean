/-
  THE PROOF OF 'Rows.FnIsBlockHeaderJoinAtAnyCutSaid': the frame after the guide's own shell (over 'Below'), the walk out of the contracts in Qxb6625858aParts.
-/
import Derived.Test.Qxb6625858aParts
namespace Go.Proofs.Qxb6625858a.fnIsBlockHeaderJoinAtAnyCut
open Go.ChangeShapes Go.WideShapes Go.ChangeAt Go.RowKit
open Go.ChangeMaps (open_string shut_string)
open Go.Proofs.Qxb6625858a.Plain Go.Proofs.Qxb6625858a.Parts
set_option linter.unusedVariables false
set_option linter.unusedSimpArgs false

theorem own : ownKnob Try.prog.godebug = none := by kernel_rfl

theorem walk_big (s t : ByteArray) (w0 : s.size ≤ maxLen) (w1 : t.size ≤ maxLen) (w : World) (h : 1048576 < s.size + t.size) :
    Calls Try.prog 4 #[.string s, .string t] w fun e w' => e = .returned (.bool true) ∧ Below w.heap.size w w' := by
  go_enter Try.func4, Try.ntmps4
  go_wp2_with (go_at_call 9; refine (bytes2_no _ _ _ w0 w1 h).mono ?_; rintro e w' ⟨rfl, rfl⟩)
  go_ret
  exact ⟨rfl, Below.refl _ _⟩

theorem walk_half (s t : ByteArray) (w : World) (h : s.size + t.size ≤ 1048576) (hh : 524288 < s.size ∨ 524288 < t.size ∨ s.size = 0) :
    Calls Try.prog 4 #[.string s, .string t] w fun e w' => e = .returned (.bool true) ∧ Below w.heap.size w w' := by
  by_cases h1 : (524288 : Int) < (s.size : Int)
  · go_enter Try.func4, Try.ntmps4
    go_wp2_with (go_at_call 9; refine (bytes2_yes _ _ _ h).mono ?_; rintro e w' ⟨rfl, rfl⟩)
    go_ret
    exact ⟨rfl, Below.refl _ _⟩
  · by_cases h2 : (524288 : Int) < (t.size : Int)
    · go_enter Try.func4, Try.ntmps4
      go_wp2_with (go_at_call 9; refine (bytes2_yes _ _ _ h).mono ?_; rintro e w' ⟨rfl, rfl⟩)
      go_ret
      exact ⟨rfl, Below.refl _ _⟩
    · have h3 : ((s.size : Int) == 0) = true := beq_iff_eq.2 (by omega)
      go_enter Try.func4, Try.ntmps4
      go_wp2_with (go_at_call 9; refine (bytes2_yes _ _ _ h).mono ?_; rintro e w' ⟨rfl, rfl⟩)
      go_ret
      exact ⟨rfl, Below.refl _ _⟩

theorem zheader_is (s : ByteArray) (b : Bool) (w : World) (h1 : 1 ≤ s.size) (hs : s.size ≤ 1048577) (h : hdr s.data.toList.tail = b) :
    Calls Try.prog 8 #[.string s] w fun e w' => e = .returned (.bool b) ∧ Below w.heap.size w w' := by
  subst h; exact zheader_any s w h1 hs

theorem hasIndent_is (s : ByteArray) (b : Bool) (w : World) (hs : s.size ≤ maxLen) (h : hasInd s.data.toList = b) :
    Calls Try.prog 10 #[.string s] w fun e w' => e = .returned (.bool b) ∧ w' = w := by
  subst h; exact hasIndent_any s w hs
theorem hasChomp_is (s : ByteArray) (b : Bool) (w : World) (hs : s.size ≤ maxLen) (h : hasCho s.data.toList = b) :
    Calls Try.prog 11 #[.string s] w fun e w' => e = .returned (.bool b) ∧ w' = w := by
  subst h; exact hasChomp_any s w hs
theorem below_tr {w w1 w2 : World} (h1 : Below w.heap.size w w1) (h2 : Below w1.heap.size w1 w2) : Below w.heap.size w w2 := h1.trans (h2.mono h1.size)
theorem size_append' (a b : ByteArray) : (a ++ b).size = a.size + b.size := by simp
theorem app_tail (a b : ByteArray) (h1 : 1 ≤ a.size) : (a ++ b).data.toList.tail = a.data.toList.tail ++ b.data.toList := by
  have e : (a ++ b).data.toList = a.data.toList ++ b.data.toList := by simp
  rw [e]
  have hl : a.data.toList.length = a.size := by simp
  cases hc : a.data.toList with
  | nil => rw [hc] at hl; simp at hl; omega
  | cons x l => simp
theorem head_tail (a : ByteArray) (h1 : 1 ≤ a.size) : (a.extract 0 1).data.toList.tail = [] := by
  simp only [ByteArray.data_extract, Array.toList_extract, List.extract_eq_take_drop]
  cases a.data.toList <;> simp
theorem head_size (a : ByteArray) (h1 : 1 ≤ a.size) : (a.extract 0 1).size = 1 := by simp; omega

set_option maxHeartbeats 4000000 in
theorem walk_main (a b : ByteArray) (w : World) (h : a.size + b.size ≤ 1048576) (ha : a.size ≤ 524288) (hb : b.size ≤ 524288) (h1 : 1 ≤ a.size)
    (L R i1 i2 c1 c2 : Bool)
    (HJ : Hid (hdr (a ++ b).data.toList.tail = (L && R && !(i1 && i2) && !(c1 && c2))))
    (HL : Hid (hdr a.data.toList.tail = L)) (HR : Hid (hdr (a.extract 0 1 ++ b).data.toList.tail = R)) (HR2 : Hid (R = true → b.size ≤ 2))
    (HI1 : Hid (hasInd (a.extract 1 a.size).data.toList = i1)) (HI2 : Hid (hasInd b.data.toList = i2))
    (HC1 : Hid (hasCho (a.extract 1 a.size).data.toList = c1)) (HC2 : Hid (hasCho b.data.toList = c2)) :
    Calls Try.prog 4 #[.string a, .string b] w fun e w' => e = .returned (.bool true) ∧ Below w.heap.size w w' := by
  have q1 : ¬ (524288 : Int) < (a.size : Int) := by omega
  have q2 : ¬ (524288 : Int) < (b.size : Int) := by omega
  have q3 : ((a.size : Int) == 0) = false := beq_eq_false_iff_ne.2 (by omega)
  have q4 : (1 : Int) ≤ (a.size : Int) := by omega
  have s1 := size_append' a b
  go_enter Try.func4, Try.ntmps4
  go_wp2_with (go_at_call 9; refine (bytes2_yes _ _ _ h).mono ?_; rintro e w' ⟨rfl, rfl⟩)
  refine (zheader_is (a ++ b) _ _ (by omega) (by omega) HJ.out).mono ?_
  rintro e w1 ⟨rfl, b1⟩
  clear s1
  go_wp2_with fail
  refine (zheader_is a _ _ (by omega) (by omega) HL.out).mono ?_
  rintro e w2 ⟨rfl, b2⟩
  go_wp2_with fail
  refine (zheader_is (a.extract 0 1 ++ b) _ _ ?_ ?_ HR.out).mono ?_
  · have := size_append' (a.extract 0 1) b; have := head_size a h1; omega
  · have := size_append' (a.extract 0 1) b; have := head_size a h1; omega
  rintro e w3 ⟨rfl, b3⟩
  have b4 := below_tr b1 (below_tr b2 b3)
  clear b1 b2 b3
  go_wp2_with fail
  refine (hasIndent_is _ _ _ (by unfold maxLen; simp; omega) HI1.out).mono ?_
  rintro e w4 ⟨rfl, rfl⟩
  have m2 : b.size ≤ maxLen := by unfold maxLen; omega
  have M2 : Hid (b.size ≤ maxLen) := m2
  have m1 : (a.extract 1 a.size).size ≤ maxLen := by unfold maxLen; simp; omega
  have M1 : Hid ((a.extract 1 a.size).size ≤ maxLen) := m1
  clear m1 m2
  cases i1
  · go_wp2_with fail
    refine (hasChomp_is _ _ _ M1.out HC1.out).mono ?_
    rintro e w5 ⟨rfl, rfl⟩
    cases c1
    · cases L <;> cases R
      all_goals
        by_cases hz : (2 : Int) < (b.size : Int)
        all_goals
          first
            | (exfalso; have := HR2.out rfl; omega)
            | (go_wp2_with (go_at_call 8; refine (zheader_is (a.extract 0 1) true _ (by rw [head_size a h1]; omega) (by rw [head_size a h1]; omega) (by rw [head_tail a h1]; rfl)).mono ?_; rintro e w6 ⟨rfl, b6⟩)
               go_ret
               exact ⟨rfl, below_tr b4 b6⟩)
    · go_wp2_with fail
      refine (hasChomp_is _ _ _ M2.out HC2.out).mono ?_
      rintro e w6 ⟨rfl, rfl⟩
      cases L <;> cases R <;> cases c2
      all_goals
        by_cases hz : (2 : Int) < (b.size : Int)
        all_goals
          first
            | (exfalso; have := HR2.out rfl; omega)
            | (go_wp2_with (go_at_call 8; refine (zheader_is (a.extract 0 1) true _ (by rw [head_size a h1]; omega) (by rw [head_size a h1]; omega) (by rw [head_tail a h1]; rfl)).mono ?_; rintro e w6 ⟨rfl, b6⟩)
               go_ret
               exact ⟨rfl, below_tr b4 b6⟩)
  · go_wp2_with fail
    refine (hasIndent_is _ _ _ M2.out HI2.out).mono ?_
    rintro e w5 ⟨rfl, rfl⟩
    go_wp2_with fail
    refine (hasChomp_is _ _ _ M1.out HC1.out).mono ?_
    rintro e w6 ⟨rfl, rfl⟩
    cases c1
    · cases L <;> cases R <;> cases i2
      all_goals
        by_cases hz : (2 : Int) < (b.size : Int)
        all_goals
          first
            | (exfalso; have := HR2.out rfl; omega)
            | (go_wp2_with (go_at_call 8; refine (zheader_is (a.extract 0 1) true _ (by rw [head_size a h1]; omega) (by rw [head_size a h1]; omega) (by rw [head_tail a h1]; rfl)).mono ?_; rintro e w6 ⟨rfl, b6⟩)
               go_ret
               exact ⟨rfl, below_tr b4 b6⟩)
    · go_wp2_with fail
      refine (hasChomp_is _ _ _ M2.out HC2.out).mono ?_
      rintro e w7 ⟨rfl, rfl⟩
      cases L <;> cases R <;> cases i2 <;> cases c2
      all_goals
        by_cases hz : (2 : Int) < (b.size : Int)
        all_goals
          first
            | (exfalso; have := HR2.out rfl; omega)
            | (go_wp2_with (go_at_call 8; refine (zheader_is (a.extract 0 1) true _ (by rw [head_size a h1]; omega) (by rw [head_size a h1]; omega) (by rw [head_tail a h1]; rfl)).mono ?_; rintro e w6 ⟨rfl, b6⟩)
               go_ret
               exact ⟨rfl, below_tr b4 b6⟩)

theorem walk (a0 : ByteArray) (a1 : ByteArray) (w0 : a0.size ≤ maxLen) (w1 : a1.size ≤ maxLen) (w : World) :
    Calls Try.prog 4 #[.string a0, .string a1] w fun e w' => e = .returned (.bool true) ∧ Below w.heap.size w w' := by
  by_cases hbig : 1048576 < a0.size + a1.size
  · exact walk_big a0 a1 w0 w1 w hbig
  by_cases hh : 524288 < a0.size ∨ 524288 < a1.size ∨ a0.size = 0
  · exact walk_half a0 a1 w (by omega) hh
  have h1 : 1 ≤ a0.size := by omega
  have hR : (a0.extract 0 1 ++ a1).data.toList.tail = a1.data.toList := by
    rw [app_tail _ _ (by rw [head_size a0 h1]; omega), head_tail a0 h1]; rfl
  refine walk_main a0 a1 w (by omega) (by omega) (by omega) h1 (hdr a0.data.toList.tail) (hdr a1.data.toList) (hasInd a0.data.toList.tail) (hasInd a1.data.toList) (hasCho a0.data.toList.tail) (hasCho a1.data.toList) ?_ rfl ?_ ?_ ?_ rfl ?_ rfl
  · show _ = _
    rw [app_tail _ _ h1]
    exact join _ _
  · show _ = _
    rw [hR]
  · intro hr
    apply Classical.byContradiction
    intro hn
    have := hdr_long a1.data.toList (by simp; omega)
    rw [this] at hr
    cases hr
  · show _ = _
    rw [tail_list]
  · show _ = _
    rw [tail_list]

/-! ### THE ROW's STEP -/
set_option maxRecDepth 100000 in
theorem lifted (os : Os) (started : os.Started) (H : Type) (enc : TypeId × Value → H) :
    ReturnsInHanded {} Try.checked os 4 .any (Rows.fnIsBlockHeaderJoinAtAnyCutSpec.pre6 enc Try.prog Try.f4 Rows.fnIsBlockHeaderJoinAtAnyCutRow.domain false) (Rows.fnIsBlockHeaderJoinAtAnyCutSpec.post enc Try.prog Try.f4 false true false false) := by
  refine returnsInHanded_of_change (C := Try.checked) own started (by kernel_rfl) Try.func4
    (ChangeSpec.witness6 (enc := enc) (C := Try.checked) false ⟨#[], #[.string ByteArray.empty, .string ByteArray.empty], []⟩ 8 (by kernel_rfl) (by kernel_rfl) (by kernel_rfl) (by kernel_rfl)) ?_
  intro W base args ds gs before hval0 hW hcnd _
  have hval : ∀ (j : Nat) t v, Try.f4.params[j]? = some t → args[j]? = some v → Value.okWide Try.prog W .any base t v := hval0
  have hW' := hW
  obtain ⟨p, q, hA0, hV, rfl, hfz, hnd⟩ := hW
  have hA : DataW.TrodAll enc Try.prog W 0 (fun _ => true) true Try.f4.params.toList args.toList ds p := hA0
  rw [Try.params4] at hA hval
  obtain ⟨v0, vs0, d0, ds0, p0, q0, hargs, rfl, rfl, h0, r0⟩ := trodAll_cons hA
  obtain ⟨v1, vs1, d1, ds1, p1, q1, rfl, rfl, rfl, h1, r1⟩ := trodAll_cons r0
  obtain ⟨rfl, rfl, rfl⟩ := trodAll_nil r1
  obtain rfl : args = #[v0, v1] := by cases args; simp_all
  obtain ⟨rfl, rfl⟩ := trodVars_none hV
  obtain ⟨a0, rfl, rfl, rfl, w0⟩ := open_string Try.underlying9 (hval 0 9 v0 rfl rfl) h0
  obtain ⟨a1, rfl, rfl, rfl, w1⟩ := open_string Try.underlying9 (hval 1 9 v1 rfl rfl) h1
  clear hA0 hval0
  refine (walk a0 a1 w0 w1 W).mono fun e W' ⟨he, bel⟩ => ?_
  subst he
  exact ⟨_, rfl, _, _, _, [], _, [], hW', trodAll_mk1 (shut_bool Try.underlying4 _), (trodAll_cons_mk (shut_string Try.underlying9 w0) (trodAll_cons_mk (shut_string Try.underlying9 w1) trodAll_mk0)), rfl, bel.frame _, fun h => by cases h⟩

theorem over : Rows.fnIsBlockHeaderJoinAtAnyCutRow.holds Try.pinned (OpenSpec.ofChange Rows.fnIsBlockHeaderJoinAtAnyCutSpec) :=
  OpenClaim.holds_of_wide 4 Try.f4 rfl rfl rfl rfl rfl rfl rfl ⟨rfl, rfl, rfl, rfl, rfl⟩ rfl rfl rfl rfl rfl (by kernel_rfl) Try.func4 (by kernel_rfl)
    (of_decide_eq_true (by kernel_rfl)) (by unfold Func.isWrapper; first | (rw [if_pos (by decide +kernel)]; kernel_rfl) | (rw [if_neg (by decide +kernel)]; exact ⟨rfl, rfl⟩))
    (fun os started H enc _ => lifted os started H enc)

theorem proved : Rows.FnIsBlockHeaderJoinAtAnyCutSaid :=
  over
end Go.Proofs.Qxb6625858a.fnIsBlockHeaderJoinAtAnyCut
