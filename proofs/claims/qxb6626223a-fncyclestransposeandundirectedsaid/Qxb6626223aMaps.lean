/-
  MAPS WITH STRING KEYS, AS FUNCTIONS: what the look-ups, the stores and 'len' do.
-/
import Derived.Test.Qxb6626223aChecked
import Derived.Test.Qxb6626223aFrame
import Derived.Test.Qxb6626223aTarjan
import Derived.Maps.OwnSet
namespace Go.Proofs.Qxb6626223a.MapsV
open Go.RowKit
open Go.Proofs.Qxb6626223a.Frame
open Go.Proofs.Qxb6626223a.Tarjan (upd upd_same upd_other)
set_option linter.unusedVariables false
set_option linter.unusedSimpArgs false

/-- Each value reads as itself. -/
def tok : Value → Option (DataW Value × List MemPlace) := fun v => some (.held v, [])
def kl (s : ByteArray) : Lit := .string s.data.toList
theorem kl_inj {s t : ByteArray} (h : kl s = kl t) : s = t := by
  simp only [kl, Lit.string.injEq] at h
  cases s; cases t
  simp at h ⊢
  exact h
theorem law : Maps.Keyed Try.prog 9 := Maps.string_keyed Try.underlying9
theorem keyOf_kl {s : ByteArray} (h : s.size ≤ maxLen) : keyOf Try.prog 9 (.string s) = some (kl s) := Go.WideMaps.keyOf_string_mk Try.underlying9 h
theorem kl_key (s : ByteArray) : WideAt.IsKeyLit (kl s) := trivial

/-- Block b is a map of n entries that holds f. -/
def IsM (w : World) (b n : Nat) (f : ByteArray → Option Value) : Prop :=
  ∃ D, w.ownsMap Try.prog 9 tok b n D ∧ Maps.size D = n ∧ ∀ s, (f s = Option.none → Maps.has D (kl s) = false) ∧ ∀ v, f s = some v → Maps.has D (kl s) = true ∧ ∀ z, D.atKey (kl s) z = .held v

theorem tight {w : World} {b n : Nat} {D : DataW Value} (h : w.ownsMap Try.prog 9 tok b n D) : w.ownsMap Try.prog 9 tok b (Maps.size D) D := by
  obtain ⟨es, clock, h1, h2, h3, h4⟩ := h
  refine ⟨es, clock, h1, h2, ?_, h4⟩
  rw [h4]
  simp [Maps.size, length_sorted]

theorem IsM.made (w : World) : IsM (w.alloc (.map #[] 0)) w.heap.size 0 fun _ => Option.none :=
  ⟨.map [], World.ownsMap_made w _ _ _, rfl, fun s => ⟨fun _ => rfl, fun v h => by cases h⟩⟩

theorem IsM.kept {w w' : World} {b n : Nat} {f : ByteArray → Option Value} (h : IsM w b n f) {S : Nat → Prop} (hk : Kept S w w') (hS : ¬ S b) : IsM w' b n f := by
  obtain ⟨D, ⟨es, clock, h1, h2⟩, h3⟩ := h
  exact ⟨D, ⟨es, clock, hk.at h1 hS, h2⟩, h3⟩

theorem IsM.lt {w : World} {b n : Nat} {f : ByteArray → Option Value} (h : IsM w b n f) : b < w.heap.size := by
  obtain ⟨D, h1, _⟩ := h
  exact h1.lt

/-- The block is a map's: no row of cells. -/
theorem IsM.obj {w : World} {b n : Nat} {f : ByteArray → Option Value} (h : IsM w b n f) : ∃ es clock, w.heap[b]? = some (.map es clock) := by
  obtain ⟨D, ⟨es, clock, h1, _⟩, _⟩ := h
  exact ⟨es, clock, h1⟩

theorem IsM.look {w : World} {b n : Nat} {f : ByteArray → Option Value} (h : IsM w b n f) {t e : TypeId} (ht : Try.prog.underlying t = some (.map 9 e)) {z : Value} (hz : (zeroValue e).run Try.prog w = .ok z w) {s : ByteArray} (hs : s.size ≤ maxLen) :
    (Instr.lookup t (.map (some b)) (.string s) false).run Try.prog w = .ok ((f s).getD z) w := by
  obtain ⟨D, h1, _, h3⟩ := h
  obtain ⟨v, ps, hrun, hv⟩ := h1.lookup law ht hz (R := tok) (zd := .held z) (zp := []) rfl (keyOf_kl hs)
  rw [hrun]
  simp only [tok, Option.some.injEq, Prod.mk.injEq] at hv
  cases hf : f s with
  | none =>
    have := Maps.atKey_of_not_has ((h3 s).1 hf) (.held z)
    rw [this] at hv
    obtain ⟨hv, _⟩ := hv
    cases hv
    rfl
  | some u =>
    have := ((h3 s).2 u hf).2 (.held z)
    rw [this] at hv
    obtain ⟨hv, _⟩ := hv
    cases hv
    rfl

theorem IsM.look_ok {w : World} {b n : Nat} {f : ByteArray → Option Value} (h : IsM w b n f) {t e : TypeId} (ht : Try.prog.underlying t = some (.map 9 e)) {z : Value} (hz : (zeroValue e).run Try.prog w = .ok z w) {s : ByteArray} (hs : s.size ≤ maxLen) :
    (Instr.lookup t (.map (some b)) (.string s) true).run Try.prog w = .ok (.tuple #[(f s).getD z, .bool (f s).isSome]) w := by
  obtain ⟨D, h1, _, h3⟩ := h
  obtain ⟨v, ps, hrun, hv⟩ := h1.look_ok law ht hz (R := tok) (zd := .held z) (zp := []) rfl (keyOf_kl hs)
  rw [hrun]
  simp only [tok, Option.some.injEq, Prod.mk.injEq] at hv
  cases hf : f s with
  | none =>
    have h0 := (h3 s).1 hf
    have := Maps.atKey_of_not_has h0 (.held z)
    rw [this] at hv
    obtain ⟨hv, _⟩ := hv
    cases hv
    rw [h0]
    rfl
  | some u =>
    obtain ⟨h0, h4⟩ := (h3 s).2 u hf
    rw [h4 (.held z)] at hv
    obtain ⟨hv, _⟩ := hv
    cases hv
    rw [h0]
    rfl

theorem IsM.len {w : World} {b n : Nat} {f : ByteArray → Option Value} (h : IsM w b n f) {t e : TypeId} (ht : Try.prog.underlying t = some (.map 9 e)) (ty : TypeId) :
    (Builtin.len_ #[t] ty #[.map (some b)]).run Try.prog w = .ok (.int .i64 n) w := by
  obtain ⟨D, h1, h2, _⟩ := h
  rw [h1.len ht ty, h2]

theorem IsM.store {w : World} {b n : Nat} {f : ByteArray → Option Value} (h : IsM w b n f) {t e : TypeId} (ht : Try.prog.underlying t = some (.map 9 e)) (hn : n < maxLen) {s : ByteArray} (hs : s.size ≤ maxLen) (v : Value) :
    ∃ w', (Instr.mapUpdate t (.map (some b)) (.string s) v).run Try.prog w = .ok () w' ∧ IsM w' b (if (f s).isSome then n else n + 1) (upd f s (some v)) ∧ Kept (fun k => k = b) w w' := by
  obtain ⟨D, h1, h2, h3⟩ := h
  obtain ⟨w', hrun, h4, h5⟩ := h1.store law ht hn (keyOf_kl hs) (val := v) (d := .held v) (ps := []) rfl
  have hg := h5.grown
  have htidy := h1.tidy law
  refine ⟨w', hrun, ⟨D.put (kl s) (.held v), ?_, ?_, ?_⟩, ⟨hg.os, hg.tape, hg.output, hg.size, fun k hk hne => hg.block k hk (fun e => hne (by cases e; rfl))⟩⟩
  · have e1 := tight h4
    have e2 := Maps.size_put (k := kl s) htidy (.held v)
    cases hf : f s with
    | none => rw [(h3 s).1 hf, h2] at e2; rw [e2] at e1; exact e1
    | some u => rw [((h3 s).2 u hf).1, h2] at e2; rw [e2] at e1; exact e1
  · have e2 := Maps.size_put (k := kl s) htidy (.held v)
    cases hf : f s with
    | none => rw [(h3 s).1 hf, h2] at e2; rw [e2]; rfl
    | some u => rw [((h3 s).2 u hf).1, h2] at e2; rw [e2]; rfl
  · intro t'
    by_cases e : t' = s
    · subst e
      rw [upd_same]
      refine ⟨fun h => (by cases h), fun u hu => ?_⟩
      cases hu
      exact ⟨Maps.has_put_same h1.isMap (kl_key _) _, fun z => Maps.atKey_put_same h1.isMap (kl_key _) _ z⟩
    · rw [upd_other _ _ e]
      have hne : kl t' ≠ kl s := fun h => e (kl_inj h)
      rw [Maps.has_put_other hne]
      refine ⟨(h3 t').1, fun u hu => ⟨((h3 t').2 u hu).1, fun z => ?_⟩⟩
      rw [Maps.atKey_put_other hne]
      exact ((h3 t').2 u hu).2 z

end Go.Proofs.Qxb6626223a.MapsV
