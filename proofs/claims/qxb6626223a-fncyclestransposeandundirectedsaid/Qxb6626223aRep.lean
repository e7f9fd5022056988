/-
  THE SEARCH's STATE AS IT LIES IN MEMORY.
-/
import Derived.Test.Qxb6626223aLib4
namespace Go.Proofs.Qxb6626223a.Rep
open Go.RowKit
open Go.Proofs.Qxb6626223a.Tarjan (upd upd_same upd_other St Inv Ext Post Loop)
open Go.Proofs.Qxb6626223a.MapsV
open Go.Proofs.Qxb6626223a.Canon
open Go.Proofs.Qxb6626223a.Frame Go.Proofs.Qxb6626223a.Order Go.Proofs.Qxb6626223a.Find Go.Proofs.Qxb6626223a.RowsS Go.Proofs.Qxb6626223a.Insert Go.Proofs.Qxb6626223a.Agents Go.Proofs.Qxb6626223a.Same Go.Proofs.Qxb6626223a.Nest Go.Proofs.Qxb6626223a.Index Go.Proofs.Qxb6626223a.Mat
set_option linter.unusedVariables false
set_option linter.unusedSimpArgs false

/-- The blocks of the search; what lies in the map of successors. -/
structure Con where
  bI : Nat
  bL : Nat
  bS : Nat
  bO : Nat
  bLa : Nat
  bV : Nat
  bG : Nat
  mI : Nat
  mL : Nat
  mO : Nat
  mLa : Nat
  B0 : Nat
  nLat : Nat
  fLat : ByteArray → Option Value

/-- What the search may turn. -/
def Var (C : Con) (k : Nat) : Prop := k = C.mI ∨ k = C.mL ∨ k = C.mO ∨ k = C.bS ∨ k = C.bG ∨ C.B0 ≤ k

structure Con.Ok (C : Con) : Prop where
  nI : ¬ Var C C.bI
  nL : ¬ Var C C.bL
  nO : ¬ Var C C.bO
  nLa : ¬ Var C C.bLa
  nV : ¬ Var C C.bV
  nM : ¬ Var C C.mLa
  il : C.mI ≠ C.mL
  io : C.mI ≠ C.mO
  lo : C.mL ≠ C.mO
  si : C.bS ≠ C.mI
  sl : C.bS ≠ C.mL
  so : C.bS ≠ C.mO
  gi : C.bG ≠ C.mI
  gl : C.bG ≠ C.mL
  go : C.bG ≠ C.mO
  sg : C.bS ≠ C.bG
  ltI : C.mI < C.B0
  ltL : C.mL < C.B0
  ltO : C.mO < C.B0
  ltS : C.bS < C.B0
  ltG : C.bG < C.B0

def ptr (b : Nat) : Value := .pointer (some ⟨b, 0, Option.none⟩)
def Con.caps (C : Con) : Array Value := #[ptr C.bI, ptr C.bL, ptr C.bS, ptr C.bO, ptr C.bLa, ptr C.bV, ptr C.bG]

/-- What stays. -/
structure Fixed (C : Con) (succ : ByteArray → List ByteArray) (w : World) : Prop where
  cI : w.cell? ⟨C.bI, 0, Option.none⟩ = some (.map (some C.mI))
  cL : w.cell? ⟨C.bL, 0, Option.none⟩ = some (.map (some C.mL))
  cO : w.cell? ⟨C.bO, 0, Option.none⟩ = some (.map (some C.mO))
  cLa : w.cell? ⟨C.bLa, 0, Option.none⟩ = some (.map (some C.mLa))
  cV : w.cell? ⟨C.bV, 0, Option.none⟩ = some (.func (.func 12) #[] C.caps)
  later : IsM w C.mLa C.nLat C.fLat
  rows : ∀ a v, C.fLat a = some v → ∃ ao cap, v = .slice ao (succ a).length cap ∧ At w ao (strs (succ a)) ∧ ∀ p, ao = some p → ¬ Var C p.block
  empty : ∀ a, C.fLat a = Option.none → succ a = []

theorem Fixed.kept {C : Con} {succ : ByteArray → List ByteArray} {w w' : World} (h : Fixed C succ w) (ok : C.Ok) (hk : Kept (Var C) w w') : Fixed C succ w' := by
  refine ⟨hk.cell h.cI ok.nI, hk.cell h.cL ok.nL, hk.cell h.cO ok.nO, hk.cell h.cLa ok.nLa, hk.cell h.cV ok.nV, h.later.kept hk ok.nM, fun a v hv => ?_, h.empty⟩
  obtain ⟨ao, cap, e, ha, hb⟩ := h.rows a v hv
  exact ⟨ao, cap, e, At.kept ha hk hb, hb⟩

def iV (n : Nat) : Value := .int .i64 (n : Int)

/-- How many of U are not visited. -/
def unv (U : List ByteArray) (f : ByteArray → Option Nat) : Nat := (U.filter fun a => (f a).isNone).length

theorem unv_push {U : List ByteArray} (hU : U.Nodup) {f : ByteArray → Option Nat} {a : ByteArray} (ha : a ∈ U) (hf : f a = Option.none) (n : Nat) : unv U (upd f a (some n)) + 1 = unv U f := by
  induction U with
  | nil => simp at ha
  | cons x r ih =>
    rw [List.nodup_cons] at hU
    unfold unv at *
    by_cases e : x = a
    · subst e
      rw [List.filter_cons_of_neg (by simp [upd_same]), List.filter_cons_of_pos (by simp [hf])]
      have : r.filter (fun b => (upd f x (some n) b).isNone) = r.filter fun b => (f b).isNone := List.filter_congr fun b hb => by
        rw [upd_other _ _ (fun e => hU.1 (by rw [← e]; exact hb))]
      rw [this]
      rfl
    · have ha' : a ∈ r := by
        rcases List.mem_cons.1 ha with h | h
        · exact absurd h.symm e
        · exact h
      have := ih hU.2 ha'
      by_cases hx : (f x).isNone = true
      · rw [List.filter_cons_of_pos (by rw [upd_other _ _ e]; exact hx), List.filter_cons_of_pos (p := fun a => (f a).isNone) hx]
        simp
        omega
      · rw [List.filter_cons_of_neg (by rw [upd_other _ _ e]; exact hx), List.filter_cons_of_neg (p := fun a => (f a).isNone) hx]
        exact this

theorem unv_pos {U : List ByteArray} {f : ByteArray → Option Nat} {a : ByteArray} (ha : a ∈ U) (hf : f a = Option.none) : 0 < unv U f := by
  unfold unv
  exact List.length_pos_of_mem (List.mem_filter.2 ⟨ha, by simp [hf]⟩)

/-- The groups among the components: sorted. -/
structure GrpOf (comps L : List (List ByteArray)) : Prop where
  each : ∀ l ∈ L, l.Pairwise slt ∧ 1 < l.length ∧ ∃ c ∈ comps, l.Perm c
  all : ∀ c ∈ comps, 1 < c.length → ∃ l ∈ L, l.Perm c
  disj : L.Pairwise fun l l' => ∀ v ∈ l, v ∉ l'
  len : L.length ≤ comps.length

/-- The two cells and the rows behind them. -/
structure RepR (C : Con) (w : World) (stack : List ByteArray) (comps : List (List ByteArray)) (vS vG : Value) : Prop where
  oS : w.heap[C.bS]? = some (.cells #[vS] 34 (0, 0))
  oG : w.heap[C.bG]? = some (.cells #[vG] 26 (0, 0))
  stk : OwnS w vS stack
  frS : ∀ k, vS.ownBlock = some k → C.B0 ≤ k
  frG : ∀ k, vG.ownBlock = some k → C.B0 ≤ k
  grp : ∃ L gs, GrpOf comps L ∧ w.ownsRow 0 34 1 vG L.length gs ∧ ∀ (i : Nat) u l, gs[i]? = some u → L[i]? = some l → OwnS w u l ∧ ∀ k, u.ownBlock = some k → C.B0 ≤ k ∧ vS.ownBlock ≠ some k

/-- Whatever turns but blocks ahead of B0 other than the two cells. -/
theorem RepR.kept {C : Con} {w w' : World} {stack : List ByteArray} {comps : List (List ByteArray)} {vS vG : Value} (h : RepR C w stack comps vS vG) {T : Nat → Prop} (hk : Kept T w w') (hT : ∀ k, k < w.heap.size → T k → k < C.B0 ∧ k ≠ C.bS ∧ k ≠ C.bG) : RepR C w' stack comps vS vG := by
  have row : ∀ {e : TypeId} {v : Value} {n : Nat} {xs : List Value}, w.ownsRow 0 e 1 v n xs → (∀ k, v.ownBlock = some k → C.B0 ≤ k) → w'.ownsRow 0 e 1 v n xs := fun ho hf => ownsRow_keep ho hk fun k hk' ht => by
    have := hT k (ownsRow_lt ho hk') ht
    have := hf k hk'
    omega
  refine ⟨hk.at h.oS (fun ht => (hT _ (lt_of_block h.oS) ht).2.1 rfl), hk.at h.oG (fun ht => (hT _ (lt_of_block h.oG) ht).2.2 rfl), row h.stk h.frS, h.frS, h.frG, ?_⟩
  obtain ⟨L, gs, h1, h2, h3⟩ := h.grp
  refine ⟨L, gs, h1, row h2 h.frG, fun i u l hu hl => ?_⟩
  obtain ⟨a, b⟩ := h3 i u l hu hl
  exact ⟨row a (fun k hk' => (b k hk').1), b⟩

/-- The whole state. -/
structure Rep (C : Con) (U : List ByteArray) (w : World) (S : St ByteArray) (onf : ByteArray → Bool) (vS vG : Value) : Prop where
  rows : RepR C w S.stack S.comps vS vG
  idx : IsM w C.mI S.cnt fun a => (S.idx a).map iV
  low : IsM w C.mL S.cnt fun a => (S.idx a).map fun _ => iV (S.low a)
  on : IsM w C.mO S.cnt fun a => (S.idx a).map fun _ => .bool (onf a)
  cnt : S.cnt + unv U S.idx = U.length

noncomputable def onS (S : St ByteArray) (a : ByteArray) : Bool := tb (a ∈ S.stack)

theorem IsM.congr {w : World} {b n n' : Nat} {f f' : ByteArray → Option Value} (h : IsM w b n f) (hn : n = n') (hf : ∀ s, f s = f' s) : IsM w b n' f' := by
  rw [show f' = f from (funext hf).symm, ← hn]
  exact h

theorem Kept.var {C : Con} {w w' : World} {b : Nat} (h : Kept (fun k => k = b) w w') (hb : Var C b) : Kept (Var C) w w' := h.mono fun k _ e => e ▸ hb

/-- low[a] = n, a being visited. -/
theorem Rep.setLow {C : Con} {U : List ByteArray} {w : World} {S : St ByteArray} {onf : ByteArray → Bool} {vS vG : Value} (h : Rep C U w S onf vS vG) (ok : C.Ok) {a : ByteArray} (ha : S.idx a ≠ Option.none) (hs : a.size ≤ maxLen) (hU : U.length ≤ 65536) (n : Nat) :
    ∃ w', (Instr.mapUpdate 35 (.map (some C.mL)) (.string a) (iV n)).run Try.prog w = .ok () w' ∧ Rep C U w' (S.setLow a n) onf vS vG ∧ Kept (Var C) w w' := by
  have hc := h.cnt
  obtain ⟨w', hrun, hm, hk⟩ := h.low.store Try.underlying35 (by unfold maxLen; omega) hs (iV n)
  refine ⟨w', hrun, ⟨h.rows.kept hk (fun k _ e => by subst e; exact ⟨ok.ltL, ok.sl.symm, ok.gl.symm⟩), h.idx.kept hk ok.il, ?_, h.on.kept hk (fun e => ok.lo e.symm), hc⟩, Kept.var hk (.inr (.inl rfl))⟩
  cases hi : S.idx a with
  | none => exact absurd hi ha
  | some m =>
    refine IsM.congr hm (by simp [hi]; rfl) fun s => ?_
    by_cases e : s = a
    · subst e
      rw [upd_same]
      show _ = (S.idx s).map fun _ => iV (upd S.low s n s)
      rw [upd_same, hi]
      rfl
    · rw [upd_other _ _ e]
      show _ = (S.idx s).map fun _ => iV (upd S.low a n s)
      rw [upd_other _ _ e]

/-- onStack[a] = b, a being visited. -/
theorem Rep.setOn {C : Con} {U : List ByteArray} {w : World} {S : St ByteArray} {onf : ByteArray → Bool} {vS vG : Value} (h : Rep C U w S onf vS vG) (ok : C.Ok) {a : ByteArray} (ha : S.idx a ≠ Option.none) (hs : a.size ≤ maxLen) (hU : U.length ≤ 65536) (b : Bool) :
    ∃ w', (Instr.mapUpdate 36 (.map (some C.mO)) (.string a) (.bool b)).run Try.prog w = .ok () w' ∧ Rep C U w' S (upd onf a b) vS vG ∧ Kept (Var C) w w' := by
  have hc := h.cnt
  obtain ⟨w', hrun, hm, hk⟩ := h.on.store Try.underlying36 (by unfold maxLen; omega) hs (.bool b)
  refine ⟨w', hrun, ⟨h.rows.kept hk (fun k _ e => by subst e; exact ⟨ok.ltO, ok.so.symm, ok.go.symm⟩), h.idx.kept hk ok.io, h.low.kept hk ok.lo, ?_, hc⟩, Kept.var hk (.inr (.inr (.inl rfl)))⟩
  cases hi : S.idx a with
  | none => exact absurd hi ha
  | some m =>
    refine IsM.congr hm (by simp [hi]) fun s => ?_
    by_cases e : s = a
    · subst e
      rw [upd_same, upd_same, hi]
      rfl
    · rw [upd_other _ _ e, upd_other _ _ e]

theorem Rep.cellS {C : Con} {U : List ByteArray} {w : World} {S : St ByteArray} {onf : ByteArray → Bool} {vS vG : Value} (h : Rep C U w S onf vS vG) : w.cell? ⟨C.bS, 0, Option.none⟩ = some vS ∧ w.frozen? ⟨C.bS, 0, Option.none⟩ = false := ⟨(cell_of h.rows.oS 0).trans rfl, free_of h.rows.oS 0⟩
theorem Rep.cellG {C : Con} {U : List ByteArray} {w : World} {S : St ByteArray} {onf : ByteArray → Bool} {vS vG : Value} (h : Rep C U w S onf vS vG) : w.cell? ⟨C.bG, 0, Option.none⟩ = some vG ∧ w.frozen? ⟨C.bG, 0, Option.none⟩ = false := ⟨(cell_of h.rows.oG 0).trans rfl, free_of h.rows.oG 0⟩

end Go.Proofs.Qxb6626223a.Rep
