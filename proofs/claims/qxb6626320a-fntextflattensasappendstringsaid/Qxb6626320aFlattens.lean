/-
  THE PROOF OF 'Rows.FnTextFlattensAsAppendStringSaid'.
-/
import Derived.Test.Qxb6626320aFlattensWalk
import Derived.Test.Qxb6626320aScript
namespace Go.Proofs.Qxb6626320a.Flattens
open Go.ChangeShapes Go.WideShapes Go.ChangeAt Go.RowKit
open Go.Proofs.Qxb6626320a.Frame Go.Proofs.Qxb6626320a.Parts Go.Proofs.Qxb6626320a.Text Go.Proofs.Qxb6626320a.Recs Go.Proofs.Qxb6626320a.Flat Go.Proofs.Qxb6626320a.Plain
open Go.Proofs.Qxb6626320a.Script (strs open_names own laidOut)
set_option linter.unusedVariables false
set_option linter.unusedSimpArgs false

theorem cells5 : Try.prog.cellsOf 5 = 1 := by kernel_rfl
theorem cells3 : Try.prog.cellsOf 3 = 1 := by kernel_rfl

theorem byte_wf {n : Int} (h : (Lit.int .u8 n).wf = true) : 0 ≤ n ∧ n < 256 := by
  simp [Lit.wf, IntKind.min, IntKind.max, IntKind.signed, IntKind.bits] at h
  omega

theorem listed {α : Type} (mk : α → Value) (V : Nat → Value) : ∀ {len : Nat}, (∀ i, i < len → ∃ q : α, V i = mk q) → ∃ l : List α, l.length = len ∧ ∀ (i : Nat) q, l[i]? = some q → V i = mk q
  | 0, _ => ⟨[], rfl, fun i q h => by simp at h⟩
  | k + 1, ea => by
    obtain ⟨l, h1, h2⟩ := listed mk V (len := k) (fun i hi => ea i (by omega))
    obtain ⟨q, hq⟩ := ea k (by omega)
    refine ⟨l ++ [q], by simp [h1], fun i r hr => ?_⟩
    rw [List.getElem?_append] at hr
    split at hr
    · exact h2 i r hr
    · have hi : i = k := by
        have := (List.getElem?_eq_some_iff.1 hr).1
        simp at this
        omega
      subst hi
      simp [h1] at hr
      subst hr
      exact hq

/-- A slice of one-cell elements that came in, opened: each cell by what its element's own reading says. -/
theorem open_row {H : Type} {enc : TypeId × Value → H} {W : World} {fuel len cap : Nat} {ao : Option Addr} {x : DataW H × List MemPlace} {t e : TypeId} {α : Type} (mk : α → Value)
    (ht : Try.prog.underlying t = some (.slice e)) (hc : Try.prog.cellsOf e = 1) (each : ∀ (n : Nat) (v : Value) y, DataW.trod enc Try.prog W 0 (fun _ => true) true n e [v] = some y → ∃ a, v = mk a)
    (h : DataW.trod enc Try.prog W 0 (fun _ => true) true fuel t [.slice ao len cap] = some x) :
    ∃ l : List α, l.length = len ∧ At W ao (l.map mk) ∧ (ao = Option.none → len = 0) ∧ len ≤ maxLen := by
  rcases Deep.open_slice1 ht hc h with ⟨hcs, _⟩ | ⟨a, l, c, m, n, V, D, Pl, hcs, _, hl, hm, hmm, _, hx⟩
  · simp at hcs
    obtain ⟨rfl, rfl, rfl⟩ := hcs
    exact ⟨[], rfl, fun i c hc => by simp at hc, fun _ => rfl, Nat.zero_le _⟩
  · simp at hcs
    obtain ⟨rfl, rfl, rfl⟩ := hcs
    simp only [if_true] at hmm
    subst hmm
    have ea : ∀ i, i < len → ∃ q : α, V i = mk q := fun i hi => each _ _ _ (hx i (by omega)).2
    obtain ⟨l, hll, hv⟩ := listed mk V ea
    refine ⟨l, hll, fun i x hi => ?_, fun h => by simp at h, by omega⟩
    have hlt : i < len := by
      have := (List.getElem?_eq_some_iff.1 hi).1
      simpa [hll] using this
    rw [List.getElem?_map, Option.map_eq_some_iff] at hi
    obtain ⟨q, hq, rfl⟩ := hi
    have e0 := (hx i (by omega)).1
    have z0 := (hx 0 (by omega)).1
    rw [hv i q hq] at e0
    obtain ⟨b, off, spot⟩ := a
    have hspot : spot = Option.none := by simpa [Addr.add] using World.cell?_spot z0
    subst hspot
    rw [Addr.add_lit] at e0
    exact ⟨b, off, rfl, e0⟩

set_option maxRecDepth 100000 in
theorem lifted (os : Os) (started : os.Started) (H : Type) (enc : TypeId × Value → H) :
    ReturnsInHanded {} Try.checked os 3 .any (Rows.fnTextFlattensAsAppendStringSpec.pre6 enc Try.prog Try.f3 Rows.fnTextFlattensAsAppendStringRow.domain false) (Rows.fnTextFlattensAsAppendStringSpec.post enc Try.prog Try.f3 false true false false) := by
  refine returnsInHanded_of_change (C := Try.checked) own started (by kernel_rfl) Try.func3
    (ChangeSpec.witness6 (enc := enc) (C := Try.checked) false ⟨#[], #[.slice Option.none 0 0, .slice Option.none 0 0, .slice Option.none 0 0, .int .i64 0, .string ByteArray.empty], []⟩ 8 (by kernel_rfl) (by kernel_rfl) (by kernel_rfl) (by kernel_rfl)) ?_
  intro W base args ds gs before hval0 hW hcnd _
  have hval : ∀ (j : Nat) t v, Try.f3.params[j]? = some t → args[j]? = some v → Value.okWide Try.prog W .any base t v := hval0
  have hW' := hW
  obtain ⟨p, q, hA0, hV, rfl, hfz, hnd⟩ := hW
  have hA : DataW.TrodAll enc Try.prog W 0 (fun _ => true) true Try.f3.params.toList args.toList ds p := hA0
  rw [Try.params3] at hA hval
  obtain ⟨v0, vs0, d0, ds0, p0, q0, hargs, rfl, rfl, h0, r0⟩ := trodAll_cons hA
  obtain ⟨v1, vs1, d1, ds1, p1, q1, rfl, rfl, rfl, h1, r1⟩ := trodAll_cons r0
  obtain ⟨v2, vs2, d2, ds2, p2, q2, rfl, rfl, rfl, h2, r2⟩ := trodAll_cons r1
  obtain ⟨v3, vs3, d3, ds3, p3, q3, rfl, rfl, rfl, h3, r3⟩ := trodAll_cons r2
  obtain ⟨v4, vs4, d4, ds4, p4, q4, rfl, rfl, rfl, h4, r4⟩ := trodAll_cons r3
  obtain ⟨rfl, rfl, rfl⟩ := trodAll_nil r4
  obtain rfl : args = #[v0, v1, v2, v3, v4] := by cases args; simp_all
  obtain ⟨rfl, rfl⟩ := trodVars_none hV
  obtain ⟨a0, len0, cap0, rfl⟩ := okWide_slice Try.underlying22 (hval 0 22 v0 rfl rfl)
  obtain ⟨a1, len1, cap1, rfl⟩ := okWide_slice Try.underlying23 (hval 1 23 v1 rfl rfl)
  obtain ⟨a2, len2, cap2, rfl⟩ := okWide_slice Try.underlying24 (hval 2 24 v2 rfl rfl)
  have k0 := h0
  have k1 := h1
  have k2 := h2
  have lt0 : ∀ x ∈ p0, x.block < W.heap.size := by obtain ⟨m, hm⟩ := k0; exact DataW.trod_lt m _ _ _ hm
  have lt1 : ∀ x ∈ p1, x.block < W.heap.size := by obtain ⟨m, hm⟩ := k1; exact DataW.trod_lt m _ _ _ hm
  have lt2 : ∀ x ∈ p2, x.block < W.heap.size := by obtain ⟨m, hm⟩ := k2; exact DataW.trod_lt m _ _ _ hm
  obtain ⟨bl, w0, w0h, w0n, w0m⟩ : ∃ l : List UInt8, l.length = len0 ∧ At W a0 (bc l) ∧ (a0 = Option.none → len0 = 0) ∧ len0 ≤ maxLen := by
    obtain ⟨fuel, hf⟩ := h0
    exact open_row (fun b : UInt8 => Value.int .u8 (b.toNat : Int)) Try.underlying22 cells5 (fun n v y hy => by
      obtain ⟨z, e, _, hz⟩ := DataW.trod_int Try.underlying5 hy
      obtain ⟨z1, z2⟩ := byte_wf hz
      refine ⟨UInt8.ofNat z.toNat, ?_⟩
      simp only [List.cons.injEq, and_true] at e
      rw [e]
      congr 1
      have : (UInt8.ofNat z.toNat).toNat = z.toNat := by
        rw [UInt8.toNat_ofNat']
        exact Nat.mod_eq_of_lt (by omega)
      rw [this]
      omega) hf
  obtain ⟨zs, w1, w1h, w1n, w1m⟩ : ∃ l : List Int, l.length = len1 ∧ At W a1 (ints l) ∧ (a1 = Option.none → len1 = 0) ∧ len1 ≤ maxLen := by
    obtain ⟨fuel, hf⟩ := h1
    exact open_row (fun z : Int => Value.int .i64 z) Try.underlying23 cells3 (fun n v y hy => by
      obtain ⟨z, e, _, hz⟩ := DataW.trod_int Try.underlying3 hy
      simp only [List.cons.injEq, and_true] at e
      exact ⟨z, e⟩) hf
  obtain ⟨ss, w2, w2h, w2n, w2m, w2s⟩ : ∃ ss : List ByteArray, ss.length = len2 ∧ At W a2 (strs ss) ∧ (a2 = Option.none → len2 = 0) ∧ len2 ≤ maxLen ∧ ∀ s ∈ ss, s.size ≤ maxLen := by
    obtain ⟨fuel, hf⟩ := h2
    exact open_names hf
  obtain ⟨hl, rfl, rfl, rfl, w3⟩ := open_int Try.underlying3 (hval 3 3 v3 rfl rfl) h3
  obtain ⟨s, rfl, rfl, rfl, w4⟩ := ChangeMaps.open_string Try.underlying9 (hval 4 9 v4 rfl rfl) h4
  clear hA0 hval0
  refine (walk a0 a1 a2 len0 cap0 len1 cap1 len2 cap2 bl zs ss hl s W w0h w1h w2h w0 w1 w2 w0n w1n w2n w0m w1m w2m w4 w2s).mono fun e W' ⟨he, bel⟩ => ?_
  subst he
  exact ⟨_, rfl, _, _, _, [], _, [], hW', trodAll_mk1 (shut_bool Try.underlying4 _),
    (trodAll_cons_mk (Below.trod laidOut (by kernel_rfl) (of_decide_eq_true (by kernel_rfl)) k0 bel lt0) (trodAll_cons_mk (Below.trod laidOut (by kernel_rfl) (of_decide_eq_true (by kernel_rfl)) k1 bel lt1) (trodAll_cons_mk (Below.trod laidOut (by kernel_rfl) (of_decide_eq_true (by kernel_rfl)) k2 bel lt2)
      (trodAll_cons_mk (shut_int Try.underlying3 w3) (trodAll_cons_mk (ChangeMaps.shut_string Try.underlying9 w4) trodAll_mk0))))), rfl, bel.frame _, fun h => by cases h⟩

theorem over : Rows.fnTextFlattensAsAppendStringRow.holds Try.pinned (OpenSpec.ofChange Rows.fnTextFlattensAsAppendStringSpec) :=
  OpenClaim.holds_of_wide 3 Try.f3 rfl rfl rfl rfl rfl rfl rfl ⟨rfl, rfl, rfl, rfl, rfl⟩ rfl rfl rfl rfl rfl (by kernel_rfl) Try.func3 (by kernel_rfl)
    (of_decide_eq_true (by kernel_rfl)) (by unfold Func.isWrapper; first | (rw [if_pos (by decide +kernel)]; kernel_rfl) | (rw [if_neg (by decide +kernel)]; exact ⟨rfl, rfl⟩))
    (fun os started H enc _ => lifted os started H enc)

theorem proved : Rows.FnTextFlattensAsAppendStringSaid :=
  over
end Go.Proofs.Qxb6626320a.Flattens
