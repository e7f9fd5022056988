/-
  THE PROOF OF 'Rows.FnMarkLateAgreesOverAnyCutOfTheHeldChecksSaid'.
-/
import Derived.Test.Qxb6625896aTwoWalk
import Derived.Test.Qxb6625896aOpen
namespace Go.Proofs.Qxb6625896a.Two
open Go.ChangeShapes Go.WideShapes Go.ChangeAt Go.RowKit
open Go.Proofs.Qxb6625896a.Plain Go.Proofs.Qxb6625896a.Frame Go.Proofs.Qxb6625896a.Parts Go.Proofs.Qxb6625896a.Build Go.Proofs.Qxb6625896a.Open
set_option linter.unusedVariables false
set_option linter.unusedSimpArgs false

theorem own : ownKnob Try.prog.godebug = none := by kernel_rfl
theorem laidOut : laidOutB Try.prog = true := by kernel_rfl

set_option maxRecDepth 1000000 in
set_option maxHeartbeats 4000000 in
theorem walk_short (ao : Option Addr) (len cap : Nat) (cut late inc wait : Int) (w : World) (hm : len ≤ maxLen) (h : 65536 < len ∨ cut < 0 ∨ (len : Int) < cut ∨ late < 0 ∨ 15 < late) :
    Calls Try.prog 4 #[.slice ao len cap, .int .i64 cut, .int .i64 late, .int .i64 wait, .int .u64 inc] w fun e w' => e = .returned (.bool true) ∧ Below w.heap.size w w' := by
  by_cases h0 : len ≤ 1048576
  · have q0 : decide (len ≤ 1048576) = true := by simp [h0]
    by_cases h1 : (65536 : Int) < (len : Int)
    · go_enter Try.func4, Try.ntmps4
      go_wp2_with (go_at_call 17; refine (bytes2_any ao len cap cut late wait inc _ hm).mono ?_; rintro e w' ⟨rfl, hw⟩; obtain rfl := hw.symm)
      go_ret
      exact ⟨rfl, Below.refl _ _⟩
    · by_cases h2 : cut < 0
      · go_enter Try.func4, Try.ntmps4
        go_wp2_with (go_at_call 17; refine (bytes2_any ao len cap cut late wait inc _ hm).mono ?_; rintro e w' ⟨rfl, hw⟩; obtain rfl := hw.symm)
        go_ret
        exact ⟨rfl, Below.refl _ _⟩
      · by_cases h3 : (len : Int) < cut
        · go_enter Try.func4, Try.ntmps4
          go_wp2_with (go_at_call 17; refine (bytes2_any ao len cap cut late wait inc _ hm).mono ?_; rintro e w' ⟨rfl, hw⟩; obtain rfl := hw.symm)
          go_ret
          exact ⟨rfl, Below.refl _ _⟩
        · by_cases h4 : late < 0
          · go_enter Try.func4, Try.ntmps4
            go_wp2_with (go_at_call 17; refine (bytes2_any ao len cap cut late wait inc _ hm).mono ?_; rintro e w' ⟨rfl, hw⟩; obtain rfl := hw.symm)
            go_ret
            exact ⟨rfl, Below.refl _ _⟩
          · have h5 : 15 < late := by omega
            go_enter Try.func4, Try.ntmps4
            go_wp2_with (go_at_call 17; refine (bytes2_any ao len cap cut late wait inc _ hm).mono ?_; rintro e w' ⟨rfl, hw⟩; obtain rfl := hw.symm)
            go_ret
            exact ⟨rfl, Below.refl _ _⟩
  · have q0 : decide (len ≤ 1048576) = false := by simp; omega
    clear h
    go_enter Try.func4, Try.ntmps4
    go_wp2_with (go_at_call 17; refine (bytes2_any ao len cap cut late wait inc _ hm).mono ?_; rintro e w' ⟨rfl, hw⟩; obtain rfl := hw.symm)
    go_ret
    exact ⟨rfl, Below.refl _ _⟩

theorem walk (ao : Option Addr) (len cap : Nat) (cut late inc wait : Int) (cs : List Chk) (w : World) (hh : Held w ao cs) (hn : cs.length = len) (hlc : len ≤ cap) (hm : cap ≤ maxLen) :
    Calls Try.prog 4 #[.slice ao len cap, .int .i64 cut, .int .i64 late, .int .i64 wait, .int .u64 inc] w fun e w' => e = .returned (.bool true) ∧ Below w.heap.size w w' := by
  by_cases h : 65536 < len ∨ cut < 0 ∨ (len : Int) < cut ∨ late < 0 ∨ 15 < late
  · exact walk_short ao len cap cut late inc wait w (Nat.le_trans hlc hm) h
  · obtain ⟨L, hL⟩ := Int.eq_ofNat_of_zero_le (show 0 ≤ late by omega)
    obtain ⟨c, hc⟩ := Int.eq_ofNat_of_zero_le (show 0 ≤ cut by omega)
    subst hL hc
    exact walk_main ao len cap c L inc wait cs w hh hn hlc hm (by omega) (by omega) (by omega)

set_option maxRecDepth 100000 in
theorem lifted (os : Os) (started : os.Started) (H : Type) (enc : TypeId × Value → H) :
    ReturnsInHanded {} Try.checked os 4 .any (Rows.fnMarkLateAgreesOverAnyCutOfTheHeldChecksSpec.pre6 enc Try.prog Try.f4 Rows.fnMarkLateAgreesOverAnyCutOfTheHeldChecksRow.domain false) (Rows.fnMarkLateAgreesOverAnyCutOfTheHeldChecksSpec.post enc Try.prog Try.f4 false true false false) := by
  refine returnsInHanded_of_change (C := Try.checked) own started (by kernel_rfl) Try.func4
    (ChangeSpec.witness6 (enc := enc) (C := Try.checked) false ⟨#[], #[.slice none 0 0, .int .i64 0, .int .i64 0, .int .i64 0, .int .u64 0], []⟩ 8 (by kernel_rfl) (by kernel_rfl) (by kernel_rfl) (by kernel_rfl)) ?_
  intro W base args ds gs before hval0 hW hcnd _
  have hval : ∀ (j : Nat) t v, Try.f4.params[j]? = some t → args[j]? = some v → Value.okWide Try.prog W .any base t v := hval0
  have hW' := hW
  obtain ⟨p, q, hA0, hV, rfl, hfz, hnd⟩ := hW
  have hA : DataW.TrodAll enc Try.prog W 0 (fun _ => true) true Try.f4.params.toList args.toList ds p := hA0
  rw [Try.params4] at hA hval
  obtain ⟨v0, vs0, d0, ds0, p0, q0, hargs, rfl, rfl, h0, r0⟩ := trodAll_cons hA
  obtain ⟨v1, vs1, d1, ds1, p1, q1, rfl, rfl, rfl, h1, r1⟩ := trodAll_cons r0
  obtain ⟨v2, vs2, d2, ds2, p2, q2, rfl, rfl, rfl, h2, r2⟩ := trodAll_cons r1
  obtain ⟨v3, vs3, d3, ds3, p3, q3, rfl, rfl, rfl, h3, r3⟩ := trodAll_cons r2
  obtain ⟨v4, vs4, d4, ds4, p4, q4, rfl, rfl, rfl, h4, r4⟩ := trodAll_cons r3
  obtain ⟨rfl, rfl, rfl⟩ := trodAll_nil r4
  obtain rfl : args = #[v0, v1, v2, v3, v4] := by cases args; simp_all
  obtain ⟨rfl, rfl⟩ := trodVars_none hV
  obtain ⟨a0, len0, cap0, rfl⟩ := okWide_slice Try.underlying22 (hval 0 22 v0 rfl rfl)
  have k0 := h0
  have lt0 : ∀ x ∈ p0, x.block < W.heap.size := by obtain ⟨m, hm⟩ := k0; exact DataW.trod_lt m _ _ _ hm
  obtain ⟨cs, w0, w0h, w0l, w0m⟩ : ∃ cs, cs.length = len0 ∧ Held W a0 cs ∧ len0 ≤ cap0 ∧ cap0 ≤ maxLen := by
    obtain ⟨fuel, hf⟩ := h0
    exact open_held2 hf
  obtain ⟨a1, rfl, rfl, rfl, w1⟩ := open_int Try.underlying3 (hval 1 3 v1 rfl rfl) h1
  obtain ⟨a2, rfl, rfl, rfl, w2⟩ := open_int Try.underlying3 (hval 2 3 v2 rfl rfl) h2
  obtain ⟨a3, rfl, rfl, rfl, w3⟩ := open_int Try.underlying3 (hval 3 3 v3 rfl rfl) h3
  obtain ⟨a4, rfl, rfl, rfl, w4⟩ := open_int Try.underlying23 (hval 4 23 v4 rfl rfl) h4
  clear hA0 hval0
  refine (walk a0 len0 cap0 a1 a2 a4 a3 cs W w0h w0 w0l w0m).mono fun e W' ⟨he, bel⟩ => ?_
  subst he
  exact ⟨_, rfl, _, _, _, [], _, [], hW', trodAll_mk1 (shut_bool Try.underlying4 _), (trodAll_cons_mk (Below.trod laidOut (by kernel_rfl) (of_decide_eq_true (by kernel_rfl)) k0 bel lt0) (trodAll_cons_mk (shut_int Try.underlying3 w1) (trodAll_cons_mk (shut_int Try.underlying3 w2) (trodAll_cons_mk (shut_int Try.underlying3 w3) (trodAll_cons_mk (shut_int Try.underlying23 w4) trodAll_mk0))))), rfl, bel.frame _, fun h => by cases h⟩

theorem over : Rows.fnMarkLateAgreesOverAnyCutOfTheHeldChecksRow.holds Try.pinned (OpenSpec.ofChange Rows.fnMarkLateAgreesOverAnyCutOfTheHeldChecksSpec) :=
  OpenClaim.holds_of_wide 4 Try.f4 rfl rfl rfl rfl rfl rfl rfl ⟨rfl, rfl, rfl, rfl, rfl⟩ rfl rfl rfl rfl rfl (by kernel_rfl) Try.func4 (by kernel_rfl)
    (of_decide_eq_true (by kernel_rfl)) (by unfold Func.isWrapper; first | (rw [if_pos (by decide +kernel)]; kernel_rfl) | (rw [if_neg (by decide +kernel)]; exact ⟨rfl, rfl⟩))
    (fun os started H enc _ => lifted os started H enc)

theorem proved : Rows.FnMarkLateAgreesOverAnyCutOfTheHeldChecksSaid :=
  over
end Go.Proofs.Qxb6625896a.Two
