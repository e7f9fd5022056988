/-
  THE PROOF OF 'Rows.FnTextScriptKeepsRecordInvariantSaid'.
-/
import Derived.Test.Qxb6626320aScriptWalk
import Derived.Test.Qxb6626320aRows
import Derived.ProofKit
import Derived.Deep.Strs
namespace Go.Proofs.Qxb6626320a.Script
open Go.ChangeShapes Go.WideShapes Go.ChangeAt Go.RowKit
open Go.Proofs.Qxb6626320a.Frame Go.Proofs.Qxb6626320a.Parts Go.Proofs.Qxb6626320a.Text Go.Proofs.Qxb6626320a.Recs Go.Proofs.Qxb6626320a.Flat Go.Proofs.Qxb6626320a.Plain
set_option linter.unusedVariables false
set_option linter.unusedSimpArgs false

theorem own : ownKnob Try.prog.godebug = Option.none := by kernel_rfl
theorem laidOut : laidOutB Try.prog = true := by kernel_rfl
theorem cells9 : Try.prog.cellsOf 9 = 1 := by kernel_rfl

/-- A []string that came in, opened. -/
theorem open_names {H : Type} {enc : TypeId × Value → H} {W : World} {fuel len cap : Nat} {ao : Option Addr} {x : DataW H × List MemPlace}
    (h : DataW.trod enc Try.prog W 0 (fun _ => true) true fuel 24 [.slice ao len cap] = some x) :
    ∃ ss : List ByteArray, ss.length = len ∧ At W ao (strs ss) ∧ (ao = Option.none → len = 0) ∧ len ≤ maxLen ∧ ∀ s ∈ ss, s.size ≤ maxLen := by
  rcases Deep.open_strs Try.underlying24 Try.underlying9 cells9 h with ⟨hcs, _⟩ | ⟨a, l, c, m, Sx, hcs, _, hl, hm, hmm, _, hx⟩
  · simp at hcs
    obtain ⟨rfl, rfl, rfl⟩ := hcs
    exact ⟨[], rfl, fun i c hc => by simp [strs] at hc, fun _ => rfl, Nat.zero_le _, by simp⟩
  · simp at hcs
    obtain ⟨rfl, rfl, rfl⟩ := hcs
    simp only [if_true] at hmm
    subst hmm
    refine ⟨(List.range len).map Sx, by simp, fun i x hc => ?_, fun h => by simp at h, by omega, fun s hs => ?_⟩
    · have hi : i < len := by
        have := (List.getElem?_eq_some_iff.1 hc).1
        simpa [strs] using this
      simp only [strs, List.map_map, List.getElem?_map, List.getElem?_range hi, Option.map_some, Option.some.injEq] at hc
      subst hc
      obtain ⟨e0, _⟩ := hx i (by omega)
      obtain ⟨z0, _⟩ := hx 0 (by omega)
      obtain ⟨b, off, spot⟩ := a
      have hspot : spot = Option.none := by simpa [Addr.add] using World.cell?_spot z0
      subst hspot
      rw [Addr.add_lit] at e0
      exact ⟨b, off, rfl, e0⟩
    · obtain ⟨i, hi, rfl⟩ := List.mem_map.1 hs
      exact (hx i (by have := List.mem_range.1 hi; omega)).2

set_option maxRecDepth 100000 in
theorem lifted (os : Os) (started : os.Started) (H : Type) (enc : TypeId × Value → H) :
    ReturnsInHanded {} Try.checked os 4 .any (Rows.fnTextScriptKeepsRecordInvariantSpec.pre6 enc Try.prog Try.f4 Rows.fnTextScriptKeepsRecordInvariantRow.domain false) (Rows.fnTextScriptKeepsRecordInvariantSpec.post enc Try.prog Try.f4 false true false false) := by
  refine returnsInHanded_of_change (C := Try.checked) own started (by kernel_rfl) Try.func4
    (ChangeSpec.witness6 (enc := enc) (C := Try.checked) false ⟨#[], #[.slice Option.none 0 0], []⟩ 8 (by kernel_rfl) (by kernel_rfl) (by kernel_rfl) (by kernel_rfl)) ?_
  intro W base args ds gs before hval0 hW hcnd _
  have hval : ∀ (j : Nat) t v, Try.f4.params[j]? = some t → args[j]? = some v → Value.okWide Try.prog W .any base t v := hval0
  have hW' := hW
  obtain ⟨p, q, hA0, hV, rfl, hfz, hnd⟩ := hW
  have hA : DataW.TrodAll enc Try.prog W 0 (fun _ => true) true Try.f4.params.toList args.toList ds p := hA0
  rw [Try.params4] at hA hval
  obtain ⟨v0, vs0, d0, ds0, p0, q0, hargs, rfl, rfl, h0, r0⟩ := trodAll_cons hA
  obtain ⟨rfl, rfl, rfl⟩ := trodAll_nil r0
  obtain rfl : args = #[v0] := by cases args; simp_all
  obtain ⟨rfl, rfl⟩ := trodVars_none hV
  obtain ⟨a0, len0, cap0, rfl⟩ := okWide_slice Try.underlying24 (hval 0 24 v0 rfl rfl)
  have k0 := h0
  have lt0 : ∀ x ∈ p0, x.block < W.heap.size := by obtain ⟨m, hm⟩ := k0; exact DataW.trod_lt m _ _ _ hm
  obtain ⟨ss, w0, w0h, w0n, w0m, w0s⟩ : ∃ ss : List ByteArray, ss.length = len0 ∧ At W a0 (strs ss) ∧ (a0 = Option.none → len0 = 0) ∧ len0 ≤ maxLen ∧ ∀ s ∈ ss, s.size ≤ maxLen := by
    obtain ⟨fuel, hf⟩ := h0
    exact open_names hf
  clear hA0 hval0
  refine (walk a0 len0 cap0 ss W w0h w0 w0n w0m w0s).mono fun e W' ⟨he, bel⟩ => ?_
  subst he
  exact ⟨_, rfl, _, _, _, [], _, [], hW', trodAll_mk1 (shut_bool Try.underlying4 _), (trodAll_cons_mk (Below.trod laidOut (by kernel_rfl) (of_decide_eq_true (by kernel_rfl)) k0 bel lt0) trodAll_mk0), rfl, bel.frame _, fun h => by cases h⟩

theorem over : Rows.fnTextScriptKeepsRecordInvariantRow.holds Try.pinned (OpenSpec.ofChange Rows.fnTextScriptKeepsRecordInvariantSpec) :=
  OpenClaim.holds_of_wide 4 Try.f4 rfl rfl rfl rfl rfl rfl rfl ⟨rfl, rfl, rfl, rfl, rfl⟩ rfl rfl rfl rfl rfl (by kernel_rfl) Try.func4 (by kernel_rfl)
    (of_decide_eq_true (by kernel_rfl)) (by unfold Func.isWrapper; first | (rw [if_pos (by decide +kernel)]; kernel_rfl) | (rw [if_neg (by decide +kernel)]; exact ⟨rfl, rfl⟩))
    (fun os started H enc _ => lifted os started H enc)

theorem proved : Rows.FnTextScriptKeepsRecordInvariantSaid :=
  over
end Go.Proofs.Qxb6626320a.Script
