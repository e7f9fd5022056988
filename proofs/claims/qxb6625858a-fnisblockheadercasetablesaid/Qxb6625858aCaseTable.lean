/-
  THE PROOF OF 'Rows.FnIsBlockHeaderCaseTableSaid': the frame after the guide's own shell (over 'Below': the call lays the array of '[]byte(s)'), the walk out of the contracts in Qxb6625858aParts.
-/
import Derived.Test.Qxb6625858aParts
namespace Go.Proofs.Qxb6625858a.fnIsBlockHeaderCaseTable
open Go.ChangeShapes Go.WideShapes Go.ChangeAt Go.RowKit
open Go.ChangeMaps (open_string shut_string)
open Go.Proofs.Qxb6625858a.Plain Go.Proofs.Qxb6625858a.Parts
set_option linter.unusedVariables false
set_option linter.unusedSimpArgs false

theorem own : ownKnob Try.prog.godebug = none := by kernel_rfl

theorem walk_big (s : ByteArray) (w0 : s.size ≤ maxLen) (w : World) (h : 1048576 < s.size) :
    Calls Try.prog 3 #[.string s] w fun e w' => e = .returned (.bool true) ∧ Below w.heap.size w w' := by
  go_enter Try.func3, Try.ntmps3
  go_wp2_with (go_at_call 5; refine (bytes1_no _ _ w0 h).mono ?_; rintro e w' ⟨rfl, rfl⟩)
  go_ret
  exact ⟨rfl, Below.refl _ _⟩

theorem walk_nil (s : ByteArray) (w : World) (h : s.size = 0) :
    Calls Try.prog 3 #[.string s] w fun e w' => e = .returned (.bool true) ∧ Below w.heap.size w w' := by
  have h1 : ((s.size : Int) == 0) = true := by simp [h]
  have h2 : ¬ (1048576 : Int) < (s.size : Int) := by omega
  have h3 : s.size ≤ 1048576 := by omega
  clear h
  go_enter Try.func3, Try.ntmps3
  go_wp2_with (go_at_call 5; refine (bytes1_yes _ _ h3).mono ?_; rintro e w' ⟨rfl, rfl⟩)
  go_ret
  exact ⟨rfl, Below.refl _ _⟩

/-- The road when the value is not empty and not too long: t is the tail. -/
theorem walk_tail0 (s t : ByteArray) (w : World) (h1 : 1 ≤ s.size) (h2 : s.size ≤ 1048576) (hext : s.extract 1 s.size = t) (hl : s.data.toList.tail = t.data.toList) (ht : t.size = 0) :
    Calls Try.prog 3 #[.string s] w fun e w' => e = .returned (.bool true) ∧ Below w.heap.size w w' := by
  have a1 : ((s.size : Int) == 0) = false := beq_eq_false_iff_ne.2 (by omega)
  have a2 : ¬ (1048576 : Int) < (s.size : Int) := by omega
  have a3 : (1 : Int) ≤ (s.size : Int) := by omega
  have b0 : ((t.size : Int) == 0) = true := by simp [ht]
  have hd : hdr s.data.toList.tail = true := by rw [hl, List.length_eq_zero_iff.1 (show t.data.toList.length = 0 by simpa using ht)]; rfl
  clear ht hl
  go_enter Try.func3, Try.ntmps3
  go_wp2_with (first
    | (go_at_call 5; refine (bytes1_yes _ _ h2).mono ?_; rintro e w' ⟨rfl, rfl⟩)
    | (go_at_call 8; refine (zheader_any _ _ h1 (by omega)).mono ?_; rintro e w' ⟨rfl, hb⟩))
  go_ret
  exact ⟨rfl, hb⟩


theorem list_one (t : ByteArray) (ht : t.size = 1) : t.data.toList = [t[0]] := by
  have := at_list t 0 (by omega)
  rw [List.drop_zero] at this
  rw [this, List.drop_eq_nil_of_le (by simp; omega)]
theorem list_two (t : ByteArray) (ht : t.size = 2) : t.data.toList = [t[0], t[1]] := by
  have e0 := at_list t 0 (by omega)
  have e1 := at_list t 1 (by omega)
  rw [List.drop_zero] at e0
  rw [e0, e1, List.drop_eq_nil_of_le (by simp; omega)]

set_option maxHeartbeats 1000000 in
theorem walk_tail1 (s t : ByteArray) (w : World) (h1 : 1 ≤ s.size) (h2 : s.size ≤ 1048576) (hext : s.extract 1 s.size = t) (hl : s.data.toList.tail = t.data.toList) (ht : t.size = 1) :
    Calls Try.prog 3 #[.string s] w fun e w' => e = .returned (.bool true) ∧ Below w.heap.size w w' := by
  have a1 : ((s.size : Int) == 0) = false := beq_eq_false_iff_ne.2 (by omega)
  have a2 : ¬ (1048576 : Int) < (s.size : Int) := by omega
  have a3 : (1 : Int) ≤ (s.size : Int) := by omega
  have b0 : ((t.size : Int) == 0) = false := beq_eq_false_iff_ne.2 (by omega)
  have b1 : ((t.size : Int) == 1) = true := beq_iff_eq.2 (by omega)
  have hp : 0 < t.size := by omega
  have hb := byte_le t[0]
  have hd : hdr s.data.toList.tail = (indN (t[0].toNat : Int) || choN (t[0].toNat : Int)) := by rw [hl, list_one t ht, hdr_one]; rfl
  clear ht hl
  by_cases c1 : indN (t[0].toNat : Int) = true
  · rw [c1, Bool.true_or] at hd
    go_enter Try.func3, Try.ntmps3
    go_wp2_with (first
      | (go_at_call 5; refine (bytes1_yes _ _ h2).mono ?_; rintro e w' ⟨rfl, rfl⟩)
      | (go_at_call 6; refine (indent_any _ _ (by omega) (by omega)).mono ?_; rintro e w' ⟨rfl, rfl⟩)
      | (go_at_call 8; refine (zheader_any _ _ h1 (by omega)).mono ?_; rintro e w' ⟨rfl, hb⟩))
    go_ret
    exact ⟨rfl, hb⟩
  · rw [Bool.not_eq_true] at c1
    rw [c1, Bool.false_or] at hd
    by_cases c2 : choN (t[0].toNat : Int) = true
    · rw [c2] at hd
      go_enter Try.func3, Try.ntmps3
      go_wp2_with (first
        | (go_at_call 5; refine (bytes1_yes _ _ h2).mono ?_; rintro e w' ⟨rfl, rfl⟩)
        | (go_at_call 6; refine (indent_any _ _ (by omega) (by omega)).mono ?_; rintro e w' ⟨rfl, rfl⟩)
        | (go_at_call 7; refine (chomp_any _ _ (by omega) (by omega)).mono ?_; rintro e w' ⟨rfl, rfl⟩)
        | (go_at_call 8; refine (zheader_any _ _ h1 (by omega)).mono ?_; rintro e w' ⟨rfl, hb⟩))
      go_ret
      exact ⟨rfl, hb⟩
    · rw [Bool.not_eq_true] at c2
      rw [c2] at hd
      go_enter Try.func3, Try.ntmps3
      go_wp2_with (first
        | (go_at_call 5; refine (bytes1_yes _ _ h2).mono ?_; rintro e w' ⟨rfl, rfl⟩)
        | (go_at_call 6; refine (indent_any _ _ (by omega) (by omega)).mono ?_; rintro e w' ⟨rfl, rfl⟩)
        | (go_at_call 7; refine (chomp_any _ _ (by omega) (by omega)).mono ?_; rintro e w' ⟨rfl, rfl⟩)
        | (go_at_call 8; refine (zheader_any _ _ h1 (by omega)).mono ?_; rintro e w' ⟨rfl, hb⟩))
      go_ret
      exact ⟨rfl, hb⟩

set_option maxHeartbeats 1000000 in
theorem walk_tail3 (s t : ByteArray) (w : World) (h1 : 1 ≤ s.size) (h2 : s.size ≤ 1048576) (hext : s.extract 1 s.size = t) (hl : s.data.toList.tail = t.data.toList) (ht : 2 < t.size) :
    Calls Try.prog 3 #[.string s] w fun e w' => e = .returned (.bool true) ∧ Below w.heap.size w w' := by
  have a1 : ((s.size : Int) == 0) = false := beq_eq_false_iff_ne.2 (by omega)
  have a2 : ¬ (1048576 : Int) < (s.size : Int) := by omega
  have a3 : (1 : Int) ≤ (s.size : Int) := by omega
  have b0 : ((t.size : Int) == 0) = false := beq_eq_false_iff_ne.2 (by omega)
  have b1 : ((t.size : Int) == 1) = false := beq_eq_false_iff_ne.2 (by omega)
  have b2 : ((t.size : Int) == 2) = false := beq_eq_false_iff_ne.2 (by omega)
  have hd : hdr s.data.toList.tail = false := by rw [hl]; exact hdr_long _ (by simpa using ht)
  clear ht hl
  go_enter Try.func3, Try.ntmps3
  go_wp2_with (first
    | (go_at_call 5; refine (bytes1_yes _ _ h2).mono ?_; rintro e w' ⟨rfl, rfl⟩)
    | (go_at_call 8; refine (zheader_any _ _ h1 (by omega)).mono ?_; rintro e w' ⟨rfl, hb⟩))
  go_ret
  exact ⟨rfl, hb⟩

set_option maxHeartbeats 1000000 in
theorem walk_tail2 (s t : ByteArray) (w : World) (h1 : 1 ≤ s.size) (h2 : s.size ≤ 1048576) (hext : s.extract 1 s.size = t) (hl : s.data.toList.tail = t.data.toList) (hp : 0 < t.size) (hq : 1 < t.size)
    (i0 c0 i1 c1 : Bool) (hi0 : indN (t[0].toNat : Int) = i0) (hc0 : choN (t[0].toNat : Int) = c0) (hi1 : indN (t[1].toNat : Int) = i1) (hc1 : choN (t[1].toNat : Int) = c1) (ht : t.size = 2) :
    Calls Try.prog 3 #[.string s] w fun e w' => e = .returned (.bool true) ∧ Below w.heap.size w w' := by
  have a1 : ((s.size : Int) == 0) = false := beq_eq_false_iff_ne.2 (by omega)
  have a2 : ¬ (1048576 : Int) < (s.size : Int) := by omega
  have a3 : (1 : Int) ≤ (s.size : Int) := by omega
  have b0 : ((t.size : Int) == 0) = false := beq_eq_false_iff_ne.2 (by omega)
  have b1 : ((t.size : Int) == 1) = false := beq_eq_false_iff_ne.2 (by omega)
  have b2 : ((t.size : Int) == 2) = true := beq_iff_eq.2 (by omega)
  have hb0 := byte_le t[0]
  have hb1 := byte_le t[1]
  have hd : hdr s.data.toList.tail = ((i0 && c1) || (c0 && i1)) := by rw [hl, list_two t ht, hdr_two, ← hi0, ← hc0, ← hi1, ← hc1]; rfl
  clear ht hl
  cases i0 <;> cases c0 <;> cases i1 <;> cases c1 <;> simp only [Bool.and_true, Bool.and_false, Bool.true_and, Bool.false_and, Bool.or_true, Bool.or_false, Bool.true_or, Bool.false_or] at hd
  all_goals
    go_enter Try.func3, Try.ntmps3
    go_wp2_with (first
      | (go_at_call 5; refine (bytes1_yes _ _ h2).mono ?_; rintro e w' ⟨rfl, rfl⟩)
      | (go_at_call 6; refine (indent_any _ _ (by omega) (by omega)).mono ?_; rintro e w' ⟨rfl, rfl⟩)
      | (go_at_call 7; refine (chomp_any _ _ (by omega) (by omega)).mono ?_; rintro e w' ⟨rfl, rfl⟩)
      | (go_at_call 8; refine (zheader_any _ _ h1 (by omega)).mono ?_; rintro e w' ⟨rfl, hb⟩))
    go_ret
    exact ⟨rfl, hb⟩

theorem walk (a0 : ByteArray) (w0 : a0.size ≤ maxLen) (w : World) :
    Calls Try.prog 3 #[.string a0] w fun e w' => e = .returned (.bool true) ∧ Below w.heap.size w w' := by
  by_cases hbig : 1048576 < a0.size
  · exact walk_big a0 w0 w hbig
  by_cases hnil : a0.size = 0
  · exact walk_nil a0 w hnil
  have hl := (tail_list a0).symm
  rcases Nat.lt_or_ge 2 (a0.extract 1 a0.size).size with h | h
  · exact walk_tail3 a0 _ w (by omega) (by omega) rfl hl h
  · by_cases h2 : (a0.extract 1 a0.size).size = 2
    · exact walk_tail2 a0 _ w (by omega) (by omega) rfl hl (by omega) (by omega) _ _ _ _ rfl rfl rfl rfl h2
    · by_cases h1 : (a0.extract 1 a0.size).size = 1
      · exact walk_tail1 a0 _ w (by omega) (by omega) rfl hl h1
      · exact walk_tail0 a0 _ w (by omega) (by omega) rfl hl (by omega)

/-! ### THE ROW's STEP -/
set_option maxRecDepth 100000 in
theorem lifted (os : Os) (started : os.Started) (H : Type) (enc : TypeId × Value → H) :
    ReturnsInHanded {} Try.checked os 3 .any (Rows.fnIsBlockHeaderCaseTableSpec.pre6 enc Try.prog Try.f3 Rows.fnIsBlockHeaderCaseTableRow.domain false) (Rows.fnIsBlockHeaderCaseTableSpec.post enc Try.prog Try.f3 false true false false) := by
  refine returnsInHanded_of_change (C := Try.checked) own started (by kernel_rfl) Try.func3
    (ChangeSpec.witness6 (enc := enc) (C := Try.checked) false ⟨#[], #[.string ByteArray.empty], []⟩ 8 (by kernel_rfl) (by kernel_rfl) (by kernel_rfl) (by kernel_rfl)) ?_
  intro W base args ds gs before hval0 hW hcnd _
  have hval : ∀ (j : Nat) t v, Try.f3.params[j]? = some t → args[j]? = some v → Value.okWide Try.prog W .any base t v := hval0
  have hW' := hW
  obtain ⟨p, q, hA0, hV, rfl, hfz, hnd⟩ := hW
  have hA : DataW.TrodAll enc Try.prog W 0 (fun _ => true) true Try.f3.params.toList args.toList ds p := hA0
  rw [Try.params3] at hA hval
  obtain ⟨v0, vs0, d0, ds0, p0, q0, hargs, rfl, rfl, h0, r0⟩ := trodAll_cons hA
  obtain ⟨rfl, rfl, rfl⟩ := trodAll_nil r0
  obtain rfl : args = #[v0] := by cases args; simp_all
  obtain ⟨rfl, rfl⟩ := trodVars_none hV
  obtain ⟨a0, rfl, rfl, rfl, w0⟩ := open_string Try.underlying9 (hval 0 9 v0 rfl rfl) h0
  clear hA0 hval0
  refine (walk a0 w0 W).mono fun e W' ⟨he, bel⟩ => ?_
  subst he
  exact ⟨_, rfl, _, _, _, [], _, [], hW', trodAll_mk1 (shut_bool Try.underlying4 _), (trodAll_cons_mk (shut_string Try.underlying9 w0) trodAll_mk0), rfl, bel.frame _, fun h => by cases h⟩

theorem over : Rows.fnIsBlockHeaderCaseTableRow.holds Try.pinned (OpenSpec.ofChange Rows.fnIsBlockHeaderCaseTableSpec) :=
  OpenClaim.holds_of_wide 3 Try.f3 rfl rfl rfl rfl rfl rfl rfl ⟨rfl, rfl, rfl, rfl, rfl⟩ rfl rfl rfl rfl rfl (by kernel_rfl) Try.func3 (by kernel_rfl)
    (of_decide_eq_true (by kernel_rfl)) (by unfold Func.isWrapper; first | (rw [if_pos (by decide +kernel)]; kernel_rfl) | (rw [if_neg (by decide +kernel)]; exact ⟨rfl, rfl⟩))
    (fun os started H enc _ => lifted os started H enc)

theorem proved : Rows.FnIsBlockHeaderCaseTableSaid :=
  over
end Go.Proofs.Qxb6625858a.fnIsBlockHeaderCaseTable
