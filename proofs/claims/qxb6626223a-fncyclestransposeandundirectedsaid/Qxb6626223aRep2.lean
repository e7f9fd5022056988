/-
  THE SEARCH's STEPS ON ITS STATE.
-/
import Derived.Test.Qxb6626223aRep
namespace Go.Proofs.Qxb6626223a.Rep
open Go.RowKit
open Go.Proofs.Qxb6626223a.Tarjan (upd upd_same upd_other St Inv Ext Post Loop)
open Go.Proofs.Qxb6626223a.MapsV
open Go.Proofs.Qxb6626223a.Canon
open Go.Proofs.Qxb6626223a.Frame Go.Proofs.Qxb6626223a.Order Go.Proofs.Qxb6626223a.Find Go.Proofs.Qxb6626223a.RowsS Go.Proofs.Qxb6626223a.Insert Go.Proofs.Qxb6626223a.Agents Go.Proofs.Qxb6626223a.Same Go.Proofs.Qxb6626223a.Nest Go.Proofs.Qxb6626223a.Index Go.Proofs.Qxb6626223a.Mat
set_option linter.unusedVariables false
set_option linter.unusedSimpArgs false

theorem GrpOf.start : GrpOf [] [] := ⟨by simp, by simp, by simp, by simp⟩
theorem GrpOf.small {comps L : List (List ByteArray)} (h : GrpOf comps L) {c : List ByteArray} (hc : ¬ 1 < c.length) : GrpOf (comps ++ [c]) L := by
  refine ⟨fun l hl => ?_, fun d hd hl => ?_, h.disj, by have := h.len; simp; omega⟩
  · obtain ⟨h1, h2, d, hd, hp⟩ := h.each l hl
    exact ⟨h1, h2, d, by simp [hd], hp⟩
  · rcases List.mem_append.1 hd with hd | hd
    · exact h.all d hd hl
    · rw [List.mem_singleton.1 hd] at hl
      exact absurd hl hc
theorem GrpOf.add {comps L : List (List ByteArray)} (h : GrpOf comps L) {c l : List ByteArray} (hl : 1 < c.length) (hp : l.Perm c) (hs : l.Pairwise slt) (hd : ∀ c' ∈ comps, ∀ v ∈ c', v ∉ c) : GrpOf (comps ++ [c]) (L ++ [l]) := by
  refine ⟨fun m hm => ?_, fun d hd' hl' => ?_, ?_, by have := h.len; simp; omega⟩
  · rcases List.mem_append.1 hm with hm | hm
    · obtain ⟨h1, h2, d, hd, hp⟩ := h.each m hm
      exact ⟨h1, h2, d, by simp [hd], hp⟩
    · rw [List.mem_singleton.1 hm]
      exact ⟨hs, by rw [hp.length_eq]; exact hl, c, by simp, hp⟩
  · rcases List.mem_append.1 hd' with hd' | hd'
    · obtain ⟨m, hm, hpm⟩ := h.all d hd' hl'
      exact ⟨m, by simp [hm], hpm⟩
    · rw [List.mem_singleton.1 hd']
      exact ⟨l, by simp, hp⟩
  · rw [List.pairwise_append]
    refine ⟨h.disj, by simp, fun m hm m' hm' v hv hv' => ?_⟩
    rw [List.mem_singleton.1 hm'] at hv'
    obtain ⟨_, _, d, hd1, hd2⟩ := h.each m hm
    exact hd d hd1 v (hd2.mem_iff.1 hv) (hp.mem_iff.1 hv')

/-- The stack's cell is written anew. -/
theorem RepR.restack {C : Con} {w w3 : World} {stack stack' : List ByteArray} {comps : List (List ByteArray)} {vS vG v' : Value} (h : RepR C w stack comps vS vG) (ok : C.Ok) (hsz : C.B0 ≤ w.heap.size) (hk : Kept (rowOf vS) w w3) (ho : OwnS w3 v' stack') (hon : Onward w vS v') :
    RepR C (w3.setCell ⟨C.bS, 0, Option.none⟩ v') stack' comps v' vG ∧ Kept (Var C) w (w3.setCell ⟨C.bS, 0, Option.none⟩ v') := by
  have nS : ¬ rowOf vS C.bS := fun e => by have := h.frS _ e; have := ok.ltS; omega
  have nG : ¬ rowOf vS C.bG := fun e => by have := h.frS _ e; have := ok.ltG; omega
  have frS' : ∀ k, v'.ownBlock = some k → C.B0 ≤ k := fun k hk' => by
    rcases hon with e | ⟨g, e, hg⟩
    · exact h.frS k (by rw [← e]; exact hk')
    · rw [e] at hk'; cases hk'; omega
  have kset : Kept (fun k => k = C.bS) w3 (w3.setCell ⟨C.bS, 0, Option.none⟩ v') := Kept.setCell (S := fun k => k = C.bS) (p := ⟨C.bS, 0, Option.none⟩) (Kept.refl _ _) (.inl rfl) _
  have row : ∀ {e : TypeId} {v : Value} {n : Nat} {xs : List Value}, w.ownsRow 0 e 1 v n xs → (∀ k, v.ownBlock = some k → C.B0 ≤ k ∧ ¬ rowOf vS k) → (w3.setCell ⟨C.bS, 0, Option.none⟩ v').ownsRow 0 e 1 v n xs := fun ho hf =>
    ownsRow_keep (ownsRow_keep ho hk fun k hk' => (hf k hk').2) kset fun k hk' e => by
      have := (hf k hk').1
      have := ok.ltS
      omega
  refine ⟨⟨?_, ?_, ?_, frS', h.frG, ?_⟩, ?_⟩
  · have := block_set (hk.at h.oS nS) 0 v'
    exact this
  · exact kset.at (hk.at h.oG nG) (fun e => ok.sg e.symm)
  · exact ownsRow_keep ho kset fun k hk' e => by
      have := frS' k hk'
      have := ok.ltS
      omega
  · obtain ⟨L, gs, h1, h2, h3⟩ := h.grp
    refine ⟨L, gs, h1, row h2 (fun k hk' => ⟨h.frG k hk', own_apart h2 h.stk (by decide) hk'⟩), fun i u l hu hl => ?_⟩
    obtain ⟨a, b⟩ := h3 i u l hu hl
    refine ⟨row a (fun k hk' => ⟨(b k hk').1, (b k hk').2⟩), fun k hk' => ⟨(b k hk').1, fun e => ?_⟩⟩
    rcases hon with e' | ⟨g, e', hg⟩
    · exact (b k hk').2 (by rw [← e']; exact e)
    · rw [e'] at e
      cases e
      have := ownsRow_lt a hk'
      omega
  · refine Kept.trans (hk.mono fun k _ hr => ?_) (Kept.var kset (.inr (.inr (.inr (.inl rfl)))))
    exact .inr (.inr (.inr (.inr (.inr (h.frS k hr)))))

/-- A group is appended to the groups. -/
theorem RepR.addGroup {C : Con} {w : World} {stack : List ByteArray} {comps : List (List ByteArray)} {vS vG u : Value} {l c : List ByteArray} (h : RepR C w stack comps vS vG) (ok : C.Ok) (hsz : C.B0 ≤ w.heap.size) (hu : OwnS w u l) (hfu : ∀ k, u.ownBlock = some k → C.B0 ≤ k ∧ vS.ownBlock ≠ some k)
    (hl : 1 < c.length) (hp : l.Perm c) (hs : l.Pairwise slt) (hd : ∀ c' ∈ comps, ∀ v ∈ c', v ∉ c) (hcl : comps.length ≤ 65536) :
    ∃ a2 n2 c2 w1, (Builtin.append_ #[26, 26] 26 #[vG, .slice (some ⟨w.heap.size, 0, Option.none⟩) 1 1]).run Try.prog (w.alloc (.cells #[u] 34)) = .ok (.slice a2 n2 c2) w1 ∧ w1.cell? ⟨C.bG, 0, Option.none⟩ = some vG ∧ w1.frozen? ⟨C.bG, 0, Option.none⟩ = false ∧
      RepR C (w1.setCell ⟨C.bG, 0, Option.none⟩ (.slice a2 n2 c2)) stack (comps ++ [c]) vS (.slice a2 n2 c2) ∧ Kept (rowOf vG) w w1 ∧ Kept (Var C) w (w1.setCell ⟨C.bG, 0, Option.none⟩ (.slice a2 n2 c2)) := by
  obtain ⟨L, gs, h1, h2, h3⟩ := h.grp
  have hx : u.oneCell' = true := by
    obtain ⟨ao, cap, e, _⟩ := own_at hu
    rw [e]; rfl
  obtain ⟨v', w1, hrun, o1, k1, on1⟩ := push_any 26 34 _ 24 Try.underlying26 info34 rfl (by decide) h2 u hx (by have := h1.len; omega)
  obtain ⟨a2, c2, e2, _⟩ := own_at o1
  obtain ⟨n2, hn2⟩ : ∃ n2, n2 = L.length + 1 := ⟨_, rfl⟩
  rw [← hn2] at e2
  have hgl : gs.length = L.length := by have := h2.1; omega
  have nS : ¬ rowOf vG C.bS := fun e => by have := h.frG _ e; have := ok.ltS; omega
  have nG : ¬ rowOf vG C.bG := fun e => by have := h.frG _ e; have := ok.ltG; omega
  have frG' : ∀ k, v'.ownBlock = some k → C.B0 ≤ k := fun k hk' => by
    rcases on1 with e | ⟨g, e, hg⟩
    · exact h.frG k (by rw [← e]; exact hk')
    · rw [e] at hk'; cases hk'; omega
  have kset : Kept (fun k => k = C.bG) w1 (w1.setCell ⟨C.bG, 0, Option.none⟩ v') := Kept.setCell (S := fun k => k = C.bG) (p := ⟨C.bG, 0, Option.none⟩) (Kept.refl _ _) (.inl rfl) _
  have row : ∀ {v : Value} {m : List ByteArray}, OwnS w v m → (∀ k, v.ownBlock = some k → C.B0 ≤ k) → OwnS (w1.setCell ⟨C.bG, 0, Option.none⟩ v') v m := fun ho hf =>
    ownsRow_keep (ownsRow_keep ho k1 fun k hk' => own_apart ho h2 (by decide) hk') kset fun k hk' e => by
      have := hf k hk'
      have := ok.ltG
      omega
  have oG1 := k1.at h.oG nG
  refine ⟨a2, n2, c2, w1, by rw [← e2]; exact hrun, (cell_of oG1 0).trans rfl, free_of oG1 0, ?_⟩
  rw [← e2]
  refine ⟨⟨?_, ?_, row h.stk h.frS, h.frS, frG', L ++ [l], gs ++ [u], h1.add hl hp hs hd, ?_, fun i x m hxu hm => ?_⟩, k1, ?_⟩
  · exact kset.at (k1.at h.oS nS) ok.sg
  · have := block_set oG1 0 v'
    exact this
  · rw [List.length_append, List.length_singleton]
    exact ownsRow_keep o1 kset fun k hk' e => by
      have := frG' k hk'
      have := ok.ltG
      omega
  · by_cases e : i < L.length
    · rw [List.getElem?_append_left (by omega)] at hxu hm
      obtain ⟨a, b⟩ := h3 i x m hxu hm
      exact ⟨row a (fun k hk' => (b k hk').1), b⟩
    · rw [List.getElem?_append_right (by omega)] at hxu hm
      rw [hgl] at hxu
      have hz : i - L.length = 0 := by
        have := (List.getElem?_eq_some_iff.1 hxu).1
        simp at this
        omega
      rw [hz] at hxu hm
      cases hxu
      cases hm
      exact ⟨row hu (fun k hk' => (hfu k hk').1), hfu⟩
  · refine Kept.trans (k1.mono fun k _ hr => ?_) (Kept.var kset (.inr (.inr (.inr (.inr (.inl rfl))))))
    exact .inr (.inr (.inr (.inr (.inr (h.frG k hr)))))

theorem RepR.addSmall {C : Con} {w : World} {stack : List ByteArray} {comps : List (List ByteArray)} {vS vG : Value} {c : List ByteArray} (h : RepR C w stack comps vS vG) (hl : ¬ 1 < c.length) : RepR C w stack (comps ++ [c]) vS vG := by
  obtain ⟨L, gs, h1, h2⟩ := h.grp
  exact ⟨h.oS, h.oG, h.stk, h.frS, h.frG, L, gs, h1.small hl, h2⟩

/-- Maps lie outside what the rows turn. -/
theorem IsM.rowKept {w w' : World} {b n : Nat} {f : ByteArray → Option Value} (h : IsM w b n f) {T : Nat → Prop} (hk : Kept T w w') (hT : ¬ T b) : IsM w' b n f := h.kept hk hT

/-- The visit's first steps. -/
theorem Rep.begin {C : Con} {U : List ByteArray} {w : World} {S : St ByteArray} {vS vG : Value} (h : Rep C U w S (onS S) vS vG) (ok : C.Ok) (hsz : C.B0 ≤ w.heap.size) (hUn : U.Nodup) (hU : U.length ≤ 65536) {a : ByteArray} (ha : a ∈ U) (hi : S.idx a = Option.none) (hoff : a ∉ S.stack) (hs : a.size ≤ maxLen) (hst : S.stack.length ≤ 65536) :
    ∃ w1 w2 a2 n2 c2 w3 w5, (Instr.mapUpdate 35 (.map (some C.mI)) (.string a) (iV S.cnt)).run Try.prog w = .ok () w1 ∧ (Instr.mapUpdate 35 (.map (some C.mL)) (.string a) (iV S.cnt)).run Try.prog w1 = .ok () w2 ∧
      w2.cell? ⟨C.bS, 0, Option.none⟩ = some vS ∧ (Builtin.append_ #[34, 34] 34 #[vS, .slice (some ⟨w2.heap.size, 0, Option.none⟩) 1 1]).run Try.prog (w2.alloc (.cells #[.string a] 9)) = .ok (.slice a2 n2 c2) w3 ∧
      w3.cell? ⟨C.bS, 0, Option.none⟩ = some vS ∧ w3.frozen? ⟨C.bS, 0, Option.none⟩ = false ∧
      (Instr.mapUpdate 36 (.map (some C.mO)) (.string a) (.bool true)).run Try.prog (w3.setCell ⟨C.bS, 0, Option.none⟩ (.slice a2 n2 c2)) = .ok () w5 ∧
      Rep C U w5 (S.push a) (onS (S.push a)) (.slice a2 n2 c2) vG ∧ Kept (Var C) w w1 ∧ Kept (Var C) w1 w2 ∧ Kept (Var C) w2 (w3.setCell ⟨C.bS, 0, Option.none⟩ (.slice a2 n2 c2)) ∧ Kept (Var C) (w3.setCell ⟨C.bS, 0, Option.none⟩ (.slice a2 n2 c2)) w5 := by
  have hc := h.cnt
  have hpos := unv_pos ha hi
  obtain ⟨w1, run1, m1, k1⟩ := h.idx.store Try.underlying35 (by unfold maxLen; omega) hs (iV S.cnt)
  obtain ⟨w2, run2, m2, k2⟩ := (h.low.kept k1 (fun e => ok.il e.symm)).store Try.underlying35 (by unfold maxLen; omega) hs (iV S.cnt)
  have r2 := (h.rows.kept k1 (fun k _ e => by subst e; exact ⟨ok.ltI, ok.si.symm, ok.gi.symm⟩)).kept k2 (fun k _ e => by subst e; exact ⟨ok.ltL, ok.sl.symm, ok.gl.symm⟩)
  obtain ⟨v', w3, run3, o3, k3, on3⟩ := push_s r2.stk a (by omega)
  obtain ⟨a2, c2, e2, _⟩ := own_at o3
  obtain ⟨n2, hn2⟩ : ∃ n2, n2 = (S.stack ++ [a]).length := ⟨_, rfl⟩
  rw [← hn2] at e2
  have sz2 : C.B0 ≤ w2.heap.size := Nat.le_trans hsz (Nat.le_trans k1.size k2.size)
  obtain ⟨r4, kv4⟩ := r2.restack ok sz2 k3 o3 on3
  have nv : ∀ b, b < C.B0 → ¬ rowOf vS b := fun b hb e => by have := r2.frS b e; omega
  have k4 : Kept (fun k => k = C.bS) w3 (w3.setCell ⟨C.bS, 0, Option.none⟩ v') := Kept.setCell (S := fun k => k = C.bS) (p := ⟨C.bS, 0, Option.none⟩) (Kept.refl _ _) (.inl rfl) _
  have mI4 := (((m1.kept k2 ok.il).kept k3 (nv _ ok.ltI)).kept k4 (fun e => ok.si e.symm))
  have mL4 := ((m2.kept k3 (nv _ ok.ltL)).kept k4 (fun e => ok.sl e.symm))
  have mO4 := ((((h.on.kept k1 (fun e => ok.io e.symm)).kept k2 (fun e => ok.lo e.symm)).kept k3 (nv _ ok.ltO)).kept k4 (fun e => ok.so e.symm))
  obtain ⟨w5, run5, m5, k5⟩ := mO4.store Try.underlying36 (by unfold maxLen; omega) hs (.bool true)
  have oS3 := k3.at r2.oS (nv _ ok.ltS)
  refine ⟨w1, w2, a2, n2, c2, w3, w5, run1, run2, (cell_of r2.oS 0).trans rfl, by rw [← e2]; exact run3, (cell_of oS3 0).trans rfl, free_of oS3 0, ?_⟩
  rw [← e2]
  refine ⟨run5, ⟨r4.kept k5 (fun k _ e => by subst e; exact ⟨ok.ltO, ok.so.symm, ok.go.symm⟩), ?_, ?_, ?_, ?_⟩, Kept.var k1 (.inl rfl), Kept.var k2 (.inr (.inl rfl)), kv4, Kept.var k5 (.inr (.inr (.inl rfl)))⟩
  · refine IsM.congr (mI4.kept k5 ok.io) (by simp [hi]; rfl) fun s => ?_
    show _ = (upd S.idx a (some S.cnt) s).map iV
    by_cases e : s = a
    · subst e; rw [upd_same, upd_same]; rfl
    · rw [upd_other _ _ e, upd_other _ _ e]
  · refine IsM.congr (mL4.kept k5 ok.lo) (by simp [hi]; rfl) fun s => ?_
    show _ = (upd S.idx a (some S.cnt) s).map fun _ => iV (upd S.low a S.cnt s)
    by_cases e : s = a
    · subst e; rw [upd_same, upd_same, upd_same]; rfl
    · rw [upd_other _ _ e, upd_other _ _ e, upd_other _ _ e]
  · refine IsM.congr m5 (by simp [hi]; rfl) fun s => ?_
    show _ = (upd S.idx a (some S.cnt) s).map fun _ => Value.bool (tb (s ∈ S.stack ++ [a]))
    by_cases e : s = a
    · subst e; rw [upd_same, upd_same, tb_true (by simp)]; rfl
    · rw [upd_other _ _ e, upd_other _ _ e]
      have : tb (s ∈ S.stack ++ [a]) = onS S s := by
        unfold onS
        by_cases hm : s ∈ S.stack
        · rw [tb_true hm, tb_true (by simp [hm])]
        · rw [tb_false hm, tb_false (by simp [hm, e])]
      rw [this]
  · have := unv_push hUn ha hi S.cnt
    show S.cnt + 1 + unv U (upd S.idx a (some S.cnt)) = U.length
    omega

end Go.Proofs.Qxb6626223a.Rep
