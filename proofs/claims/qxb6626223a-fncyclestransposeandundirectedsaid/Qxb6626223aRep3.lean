/-
  THE SEARCH's LAST STEPS ON ITS STATE: a group is cut off the stack.
-/
import Derived.Test.Qxb6626223aRep2
namespace Go.Proofs.Qxb6626223a.Rep
open Go.RowKit
open Go.Proofs.Qxb6626223a.Tarjan (upd upd_same upd_other St Inv Ext Post Loop)
open Go.Proofs.Qxb6626223a.MapsV
open Go.Proofs.Qxb6626223a.Canon
open Go.Proofs.Qxb6626223a.Frame Go.Proofs.Qxb6626223a.Order Go.Proofs.Qxb6626223a.Find Go.Proofs.Qxb6626223a.RowsS Go.Proofs.Qxb6626223a.Insert Go.Proofs.Qxb6626223a.Agents Go.Proofs.Qxb6626223a.Same Go.Proofs.Qxb6626223a.Nest Go.Proofs.Qxb6626223a.Index Go.Proofs.Qxb6626223a.Mat
set_option linter.unusedVariables false
set_option linter.unusedSimpArgs false

/-- A shorter slice of the row. -/
theorem own_take {w : World} {g n cap : Nat} {l : List ByteArray} (h : OwnS w (.slice (some ⟨g, 0, Option.none⟩) n cap) l) (hn : l.length = n) {i : Nat} (hi : i ≤ n) : OwnS w (.slice (some ⟨g, 0, Option.none⟩) i cap) (l.take i) := by
  have hl : (l.take i).length = i := by rw [List.length_take]; omega
  unfold OwnS at *
  rw [hl]
  obtain ⟨h1, h2⟩ := h
  refine ⟨by rw [strs_len, hl, Nat.mul_one], .inr ?_⟩
  rcases h2 with ⟨h0, _⟩ | ⟨g', cap', cur, he, hb, hg, hnc, hcm, hsz, htk⟩
  · simp at h0
  · simp only [Value.slice.injEq, Option.some.injEq, Addr.mk.injEq, and_true, true_and] at he
    obtain ⟨rfl, _, rfl⟩ := he
    refine ⟨g, cap, cur, rfl, hb, hg, by omega, hcm, hsz, ?_⟩
    rw [Nat.mul_one] at *
    rw [show strs (l.take i) = (strs l).take i from by simp [strs, List.map_take], ← htk, List.take_take]
    congr 1
    omega

/-- The rest of the row, read. -/
theorem at_drop {w : World} {g : Nat} {p r : List ByteArray} (h : At w (some ⟨g, 0, Option.none⟩) (strs (p ++ r))) : At w (some ⟨g, p.length, Option.none⟩) (strs r) := fun i x hx => by
  obtain ⟨g', off, e, hc⟩ := h (p.length + i) x (by
    rw [strs, List.map_append, List.getElem?_append_right (by simp)]
    simpa [strs] using hx)
  simp only [Option.some.injEq, Addr.mk.injEq, and_true] at e
  obtain ⟨rfl, rfl⟩ := e
  rw [Nat.zero_add] at hc
  exact ⟨g, p.length, rfl, hc⟩

theorem kept_set_both {w w7 : World} (h : Kept nothing w w7) {b : Nat} {A : Array Value} {t : TypeId} {f : Nat × Nat} (hb : w.heap[b]? = some (.cells A t f)) (v : Value) : Kept nothing (w.setCell ⟨b, 0, Option.none⟩ v) (w7.setCell ⟨b, 0, Option.none⟩ v) := by
  refine ⟨h.os, h.tape, h.output, by simpa using h.size, fun k hk _ => ?_⟩
  rw [World.size_setCell] at hk
  by_cases e : k = b
  · subst e
    rw [block_set hb, block_set (h.at hb id)]
  · rw [block_set_ne _ _ e, block_set_ne _ _ e, h.block k hk id]

/-- stack = stack[:i]. -/
theorem Rep.cutStack {C : Con} {U : List ByteArray} {w : World} {T : St ByteArray} {onf : ByteArray → Bool} {g n cap : Nat} {vG : Value} (h : Rep C U w T onf (.slice (some ⟨g, 0, Option.none⟩) n cap) vG) (ok : C.Ok) (hB : C.B0 ≤ w.heap.size) {st gr : List ByteArray} (hst : T.stack = st ++ gr) (hn : T.stack.length = n) :
    Rep C U (w.setCell ⟨C.bS, 0, Option.none⟩ (.slice (some ⟨g, 0, Option.none⟩) st.length cap)) { T with stack := st } onf (.slice (some ⟨g, 0, Option.none⟩) st.length cap) vG := by
  have ho := own_take h.rows.stk hn (i := st.length) (by rw [← hn, hst]; simp)
  rw [hst, List.take_left'  rfl] at ho
  obtain ⟨r, _⟩ := h.rows.restack ok hB (Kept.refl _ _) ho (.inl rfl)
  have kset : Kept (fun k => k = C.bS) w (w.setCell ⟨C.bS, 0, Option.none⟩ (.slice (some ⟨g, 0, Option.none⟩) st.length cap)) := Kept.setCell (S := fun k => k = C.bS) (p := ⟨C.bS, 0, Option.none⟩) (Kept.refl _ _) (.inl rfl) _
  exact ⟨r, h.idx.kept kset (fun e => ok.si e.symm), h.low.kept kset (fun e => ok.sl e.symm), h.on.kept kset (fun e => ok.so e.symm), h.cnt⟩

/-- onStack[a] = b, a being visited; what turns. -/
theorem Rep.setOn' {C : Con} {U : List ByteArray} {w : World} {S : St ByteArray} {onf : ByteArray → Bool} {vS vG : Value} (h : Rep C U w S onf vS vG) (ok : C.Ok) {a : ByteArray} (ha : S.idx a ≠ Option.none) (hs : a.size ≤ maxLen) (hU : U.length ≤ 65536) (b : Bool) :
    ∃ w', (Instr.mapUpdate 36 (.map (some C.mO)) (.string a) (.bool b)).run Try.prog w = .ok () w' ∧ Rep C U w' S (upd onf a b) vS vG ∧ Kept (fun k => k = C.mO) w w' := by
  have hc := h.cnt
  obtain ⟨w', hrun, hm, hk⟩ := h.on.store Try.underlying36 (by unfold maxLen; omega) hs (.bool b)
  refine ⟨w', hrun, ⟨h.rows.kept hk (fun k _ e => by subst e; exact ⟨ok.ltO, ok.so.symm, ok.go.symm⟩), h.idx.kept hk ok.io, h.low.kept hk ok.lo, ?_, hc⟩, hk⟩
  cases hi : S.idx a with
  | none => exact absurd hi ha
  | some m =>
    refine IsM.congr hm (by simp [hi]) fun s => ?_
    by_cases e : s = a
    · subst e
      rw [upd_same, upd_same, hi]
      rfl
    · rw [upd_other _ _ e, upd_other _ _ e]

/-- The group is sorted: a row of its own that no other part of the state knows. -/
theorem Rep.aside {C : Con} {U : List ByteArray} {wv w w' : World} {S : St ByteArray} {onf onf0 : ByteArray → Bool} {vS vG : Value} {g : Nat} (h0 : Rep C U wv S onf0 vS vG) (h : Rep C U w S onf vS vG) (ok : C.Ok) (k0 : Kept (fun k => k = C.mO) wv w) (hk : Kept (fun k => k = g) w w') (hg : wv.heap.size ≤ g) (hB : C.B0 ≤ g) : Rep C U w' S onf vS vG := by
  have k1 : Kept (fun k => k = C.mO) wv w' := ⟨hk.os.trans k0.os, hk.tape.trans k0.tape, hk.output.trans k0.output, Nat.le_trans k0.size hk.size, fun k hkl hne => by
    rw [hk.block k (Nat.lt_of_lt_of_le hkl k0.size) (by omega), k0.block k hkl hne]⟩
  have n : ∀ b, b < C.B0 → ¬ b = g := fun b hb e => by omega
  exact ⟨h0.rows.kept k1 (fun k _ e => by subst e; exact ⟨ok.ltO, ok.so.symm, ok.go.symm⟩), h.idx.kept hk (n _ ok.ltI), h.low.kept hk (n _ ok.ltL), h.on.kept hk (n _ ok.ltO), h.cnt⟩

theorem Rep.onCongr {C : Con} {U : List ByteArray} {w : World} {S : St ByteArray} {onf onf' : ByteArray → Bool} {vS vG : Value} (h : Rep C U w S onf vS vG) (he : ∀ x, onf x = onf' x) : Rep C U w S onf' vS vG := by
  rw [show onf' = onf from (funext he).symm]
  exact h

/-- A group of one. -/
theorem Rep.addSmall {C : Con} {U : List ByteArray} {w : World} {T : St ByteArray} {onf : ByteArray → Bool} {vS vG : Value} {st c : List ByteArray} (h : Rep C U w { T with stack := st } onf vS vG) (hl : ¬ 1 < c.length) : Rep C U w (T.cut st c) onf vS vG :=
  ⟨h.rows.addSmall hl, h.idx, h.low, h.on, h.cnt⟩

/-- groups = append(groups, group). -/
theorem Rep.addGroup {C : Con} {U : List ByteArray} {w : World} {T : St ByteArray} {onf : ByteArray → Bool} {vS vG u : Value} {st l c : List ByteArray} (h : Rep C U w { T with stack := st } onf vS vG) (ok : C.Ok) (hsz : C.B0 ≤ w.heap.size) (hu : OwnS w u l) (hfu : ∀ k, u.ownBlock = some k → C.B0 ≤ k ∧ vS.ownBlock ≠ some k)
    (hl : 1 < c.length) (hp : l.Perm c) (hs : l.Pairwise slt) (hd : ∀ c' ∈ T.comps, ∀ v ∈ c', v ∉ c) (hcl : T.comps.length ≤ 65536) :
    ∃ a2 n2 c2 w1, (Builtin.append_ #[26, 26] 26 #[vG, .slice (some ⟨w.heap.size, 0, Option.none⟩) 1 1]).run Try.prog (w.alloc (.cells #[u] 34)) = .ok (.slice a2 n2 c2) w1 ∧ w1.cell? ⟨C.bG, 0, Option.none⟩ = some vG ∧ w1.frozen? ⟨C.bG, 0, Option.none⟩ = false ∧
      Rep C U (w1.setCell ⟨C.bG, 0, Option.none⟩ (.slice a2 n2 c2)) (T.cut st c) onf vS (.slice a2 n2 c2) ∧ Kept (Var C) w (w1.setCell ⟨C.bG, 0, Option.none⟩ (.slice a2 n2 c2)) := by
  obtain ⟨a2, n2, c2, w1, hrun, hc, hf, hr, k1, kv⟩ := h.rows.addGroup ok hsz hu hfu hl hp hs hd hcl
  refine ⟨a2, n2, c2, w1, hrun, hc, hf, ?_, kv⟩
  have kset : Kept (fun k => k = C.bG) w1 (w1.setCell ⟨C.bG, 0, Option.none⟩ (.slice a2 n2 c2)) := Kept.setCell (S := fun k => k = C.bG) (p := ⟨C.bG, 0, Option.none⟩) (Kept.refl _ _) (.inl rfl) _
  have nv : ∀ b, b < C.B0 → ¬ rowOf vG b := fun b hb e => by have := h.rows.frG b e; omega
  exact ⟨hr, (h.idx.kept k1 (nv _ ok.ltI)).kept kset (fun e => ok.gi e.symm), (h.low.kept k1 (nv _ ok.ltL)).kept kset (fun e => ok.gl e.symm), (h.on.kept k1 (nv _ ok.ltO)).kept kset (fun e => ok.go e.symm), h.cnt⟩

end Go.Proofs.Qxb6626223a.Rep
