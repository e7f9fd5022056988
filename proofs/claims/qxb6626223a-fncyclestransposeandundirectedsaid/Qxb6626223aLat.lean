/-
  THE MAP OF SUCCESSORS that Cycles lays.
-/
import Derived.Test.Qxb6626223aCycPlain
namespace Go.Proofs.Qxb6626223a.Lat
open Go.RowKit
open Go.Proofs.Qxb6626223a.Tarjan (upd upd_same upd_other)
open Go.Proofs.Qxb6626223a.MapsV Go.Proofs.Qxb6626223a.Graph
open Go.Proofs.Qxb6626223a.Frame Go.Proofs.Qxb6626223a.Order Go.Proofs.Qxb6626223a.Find Go.Proofs.Qxb6626223a.RowsS Go.Proofs.Qxb6626223a.Insert Go.Proofs.Qxb6626223a.Agents Go.Proofs.Qxb6626223a.Same Go.Proofs.Qxb6626223a.Nest Go.Proofs.Qxb6626223a.Index Go.Proofs.Qxb6626223a.Mat Go.Proofs.Qxb6626223a.Rep Go.Proofs.Qxb6626223a.LibC Go.Proofs.Qxb6626223a.Visit
set_option linter.unusedVariables false
set_option linter.unusedSimpArgs false

structure Lat (w wr : World) (b0 : Nat) (E : List (ByteArray × ByteArray)) (nn : Nat) (f : ByteArray → Option Value) : Prop where
  map : IsM wr b0 nn f
  len : nn ≤ E.length
  empty : ∀ a, f a = Option.none → succOf E a = []
  row : ∀ a v, f a = some v → OwnS wr v (succOf E a) ∧ Fresh w v
  apart : ∀ a a' v v' k, a ≠ a' → f a = some v → f a' = some v' → v.ownBlock = some k → v'.ownBlock ≠ some k
  key : ∀ a, f a ≠ Option.none → ∃ p ∈ E, p.1 = a

theorem Lat.kept0 {w wr w' : World} {b0 : Nat} {E : List (ByteArray × ByteArray)} {nn : Nat} {f : ByteArray → Option Value} (h : Lat w wr b0 E nn f) (hk : Kept nothing wr w') : Lat w w' b0 E nn f :=
  ⟨h.map.kept hk id, h.len, h.empty, fun a v hv => ⟨ownsRow_keep (h.row a v hv).1 hk (fun _ _ => id), (h.row a v hv).2⟩, h.apart, h.key⟩

theorem succ_len (E : List (ByteArray × ByteArray)) (a : ByteArray) : (succOf E a).length ≤ E.length := by
  unfold succOf
  rw [List.length_map]
  exact List.length_filter_le _ _
theorem succ_add_same (E : List (ByteArray × ByteArray)) (a b : ByteArray) : succOf (E ++ [(a, b)]) a = succOf E a ++ [b] := by
  unfold succOf
  rw [List.filter_append, List.map_append]
  simp
theorem succ_add_other (E : List (ByteArray × ByteArray)) {a x : ByteArray} (b : ByteArray) (h : x ≠ a) : succOf (E ++ [(a, b)]) x = succOf E x := by
  unfold succOf
  rw [List.filter_append, List.map_append]
  simp
  exact fun e => h e.symm

/-- A row of cells is no map. -/
theorem row_no_map {w : World} {b n : Nat} {f : ByteArray → Option Value} (h : IsM w b n f) {e : TypeId} {v : Value} {m : Nat} {xs : List Value} (ho : w.ownsRow 0 e 1 v m xs) : ¬ rowOf v b := fun hk => by
  obtain ⟨A, hA⟩ := own_obj ho hk
  obtain ⟨es, clock, hm⟩ := h.obj
  rw [hA] at hm
  cases hm

/-- later[e] = append(later[e], l). -/
theorem Lat.step {w wd : World} {b0 : Nat} {E : List (ByteArray × ByteArray)} {nn : Nat} {f : ByteArray → Option Value} (h : Lat w wd b0 E nn f) (hK : Kept nothing w wd) (hb : w.heap.size ≤ b0) (hE : E.length ≤ 65536) {e l : ByteArray} (hs : e.size ≤ maxLen) :
    ∃ ao len cap a2 n2 c2 w2 w3 nn' f', (Instr.lookup 33 (.map (some b0)) (.string e) false).run Try.prog wd = .ok (.slice ao len cap) wd ∧
      (Instr.lookup 33 (.map (some b0)) (.string e) false).run Try.prog (wd.alloc (.cells #[.string l] 9)) = .ok (.slice ao len cap) (wd.alloc (.cells #[.string l] 9)) ∧
      (Builtin.append_ #[34, 34] 34 #[.slice ao len cap, .slice (some ⟨wd.heap.size, 0, Option.none⟩) 1 1]).run Try.prog (wd.alloc (.cells #[.string l] 9)) = .ok (.slice a2 n2 c2) w2 ∧
      (Instr.mapUpdate 33 (.map (some b0)) (.string e) (.slice a2 n2 c2)).run Try.prog w2 = .ok () w3 ∧ Lat w w3 b0 (E ++ [(e, l)]) nn' f' ∧ Kept nothing w w3 ∧
      (∀ (k : Nat) A t fz, wd.heap[k]? = some (Obj.cells A t fz) → t ≠ 9 → w2.heap[k]? = some (Obj.cells A t fz) ∧ w3.heap[k]? = some (Obj.cells A t fz)) := by
  have ka : Kept nothing wd (wd.alloc (.cells #[.string l] 9)) := (Kept.refl _ _).alloc _
  have look1 := h.map.look Try.underlying33 (zero34 wd) hs
  have look2 := (h.map.kept ka id).look Try.underlying33 (zero34 (wd.alloc (.cells #[.string l] 9))) hs
  have val : ∃ v, (f e).getD (.slice Option.none 0 0) = v ∧ OwnS wd v (succOf E e) ∧ Fresh w v ∧ ∀ a v', a ≠ e → f a = some v' → ∀ k, v'.ownBlock = some k → v.ownBlock ≠ some k := by
    cases hf : f e with
    | none =>
      refine ⟨_, rfl, ?_, fresh_nil w, fun a v' ha hv' k hk hn => by simp [Value.ownBlock] at hn⟩
      rw [h.empty e hf]
      exact World.ownsRow_nil _ _ _ _
    | some v =>
      obtain ⟨h1, h2⟩ := h.row e v hf
      exact ⟨v, rfl, h1, h2, fun a v' ha hv' k hk => h.apart a e v' v k ha hv' hf hk⟩
  obtain ⟨v, hv, ov, fv, av⟩ := val
  rw [hv] at look1 look2
  obtain ⟨v', w2, run2, o2, k2, on2⟩ := push_s ov l (by have := succ_len E e; omega)
  have m2 := h.map.kept k2 (row_no_map h.map ov)
  have hlen := h.len
  obtain ⟨w3, run3, m3, k3⟩ := m2.store Try.underlying33 (by unfold maxLen; omega) hs v'
  obtain ⟨ao, cap, e1, _⟩ := own_at ov
  obtain ⟨a2, c2, e2, _⟩ := own_at o2
  obtain ⟨n1, hn1⟩ : ∃ n1, n1 = (succOf E e).length := ⟨_, rfl⟩
  obtain ⟨n2, hn2⟩ : ∃ n2, n2 = (succOf E e ++ [l]).length := ⟨_, rfl⟩
  rw [← hn1] at e1
  rw [← hn2] at e2
  have keep : ∀ a u, a ≠ e → f a = some u → OwnS w3 u (succOf E a) := fun a u ha hu => by
    have o := (h.row a u hu).1
    have o2 := ownsRow_keep o k2 (fun k hk he => av a u ha hu k hk he)
    exact ownsRow_keep o2 k3 (fun k hk ek => by subst ek; exact row_no_map m2 o2 hk)
  have fv' := fv.onward hK.size on2
  refine ⟨ao, n1, cap, a2, n2, c2, w2, w3, _, _, by rw [← e1]; exact look1, by rw [← e1]; exact look2, by rw [← e1, ← e2]; exact run2, by rw [← e2]; exact run3, ⟨m3, ?_, fun a ha => ?_, fun a u hu => ?_, fun a a' u u' k hne hu hu' hk => ?_, fun a ha => ?_⟩, ?_, fun k A t fz hk ht => ?_⟩
  · rw [List.length_append, List.length_singleton]
    split <;> omega
  · by_cases ea : a = e
    · subst ea; rw [upd_same] at ha; cases ha
    · rw [upd_other _ _ ea] at ha
      rw [succ_add_other E l ea]
      exact h.empty a ha
  · by_cases ea : a = e
    · subst ea
      rw [upd_same] at hu
      cases hu
      rw [succ_add_same]
      exact ⟨ownsRow_keep o2 k3 (fun k hk ek => by subst ek; exact row_no_map m2 o2 hk), fv'⟩
    · rw [upd_other _ _ ea] at hu
      rw [succ_add_other E l ea]
      exact ⟨keep a u ea hu, (h.row a u hu).2⟩
  · have other : ∀ x ux, x ≠ e → f x = some ux → ∀ k, ux.ownBlock = some k → v'.ownBlock ≠ some k := fun x ux hx hux k hk hv' => by
      rcases on2 with e' | ⟨g, e', hg⟩
      · exact av x ux hx hux k hk (by rw [← e']; exact hv')
      · rw [e'] at hv'
        cases hv'
        have := ownsRow_lt (h.row x ux hux).1 hk
        omega
    by_cases ea : a = e
    · subst ea
      rw [upd_same] at hu
      cases hu
      rw [upd_other _ _ (fun e' => hne e'.symm)] at hu'
      exact fun hk' => other a' u' (fun e' => hne e'.symm) hu' k hk' hk
    · rw [upd_other _ _ ea] at hu
      by_cases ea' : a' = e
      · subst ea'
        rw [upd_same] at hu'
        cases hu'
        exact other a u ea hu k hk
      · rw [upd_other _ _ ea'] at hu'
        exact h.apart a a' u u' k hne hu hu' hk
  · by_cases ea : a = e
    · exact ⟨(e, l), by simp, ea.symm⟩
    · rw [upd_other _ _ ea] at ha
      obtain ⟨p, hp, hpa⟩ := h.key a ha
      exact ⟨p, by simp [hp], hpa⟩
  · have k12 : Kept nothing w w2 := hK.fresh fv k2
    exact ⟨k3.os.trans k12.os, k3.tape.trans k12.tape, k3.output.trans k12.output, Nat.le_trans k12.size k3.size, fun k hk hs' => by
      rw [k3.block k (Nat.lt_of_lt_of_le hk k12.size) (by omega), k12.block k hk hs']⟩
  · have h2 := k2.at hk (fun hr => by
      obtain ⟨B, hB⟩ := own_obj ov (k := k) hr
      rw [hk] at hB
      simp at hB
      exact ht hB.2.1)
    refine ⟨h2, k3.at h2 (fun ek => ?_)⟩
    subst ek
    obtain ⟨es, clock, hm⟩ := m2.obj
    rw [h2] at hm
    cases hm

end Go.Proofs.Qxb6626223a.Lat
