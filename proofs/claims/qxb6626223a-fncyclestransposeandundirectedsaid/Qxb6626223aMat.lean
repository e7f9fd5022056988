/-
  ROWS OF BOOLS, THE MATRIX OF REACH, THE GROUPS BEING GATHERED: what a call owns.
-/
import Derived.Test.Qxb6626223aNest
import Derived.Test.Qxb6626223aIndex
namespace Go.Proofs.Qxb6626223a.Mat
open Go.RowKit
open Go.Proofs.Qxb6626223a.Frame Go.Proofs.Qxb6626223a.Find Go.Proofs.Qxb6626223a.RowsS Go.Proofs.Qxb6626223a.Insert Go.Proofs.Qxb6626223a.Agents Go.Proofs.Qxb6626223a.Same Go.Proofs.Qxb6626223a.Nest Go.Proofs.Qxb6626223a.Index
set_option linter.unusedVariables false
set_option linter.unusedSimpArgs false

def iv (l : List Nat) : List Value := l.map fun v : Nat => .int .i64 (v : Int)
def bv (l : List Bool) : List Value := l.map Value.bool

theorem own_obj {w : World} {e : TypeId} {v : Value} {n : Nat} {xs : List Value} (h : w.ownsRow 0 e 1 v n xs) {k : Nat} (hk : v.ownBlock = some k) : ∃ A, w.heap[k]? = some (.cells A e (0, 0)) := by
  rcases h.2 with ⟨rfl, _⟩ | ⟨g, cap, cur, rfl, hb, hg, _⟩
  · simp [Value.ownBlock] at hk
  · simp [Value.ownBlock] at hk
    subst hk
    exact ⟨_, hg⟩
theorem own_apart {w : World} {e e' : TypeId} {v v' : Value} {n n' : Nat} {xs xs' : List Value} (h : w.ownsRow 0 e 1 v n xs) (h' : w.ownsRow 0 e' 1 v' n' xs') (he : e ≠ e') {k : Nat} (hk : v.ownBlock = some k) : ¬ rowOf v' k := fun hk' => by
  obtain ⟨A, hA⟩ := own_obj h' hk'
  exact ownsRow_type h hA he hk

/-- A row of n bools: P says which are true. -/
def BRow (w : World) (g n : Nat) (P : Nat → Prop) : Prop := ∃ T : List Bool, w.ownsRow 0 4 1 (.slice (some ⟨g, 0, Option.none⟩) n n) n (bv T) ∧ ∀ k, k < n → T[k]? = some (tb (P k))

theorem BRow.start (w : World) {n : Nat} (hn : n ≤ maxLen) : BRow (w.alloc (.cells (madeCells #[.bool false] n) 4)) w.heap.size n fun _ => False := by
  refine ⟨List.replicate n false, ?_, fun k hk => by simp [hk, tb]⟩
  have := own_made w 4 (.bool false) hn
  simpa [bv] using this
theorem BRow.congr {w : World} {g n : Nat} {P P' : Nat → Prop} (h : BRow w g n P) (he : ∀ k, k < n → (P k ↔ P' k)) : BRow w g n P' := by
  obtain ⟨T, h1, h2⟩ := h
  refine ⟨T, h1, fun k hk => ?_⟩
  rw [h2 k hk]
  have := he k hk
  by_cases hp : P k
  · rw [tb_true hp, tb_true (this.1 hp)]
  · rw [tb_false hp, tb_false fun h => hp (this.2 h)]
theorem BRow.cell {w : World} {g n : Nat} {P : Nat → Prop} (h : BRow w g n P) {k : Nat} (hk : k < n) : w.cell? ⟨g, k, Option.none⟩ = some (.bool (tb (P k))) ∧ w.frozen? ⟨g, k, Option.none⟩ = false := by
  obtain ⟨T, h1, h2⟩ := h
  exact own_cell h1 (by simp [bv, h2 k hk])
theorem BRow.set {w : World} {g n : Nat} {P : Nat → Prop} (h : BRow w g n P) {k : Nat} (hk : k < n) : BRow (w.setCell ⟨g, k, Option.none⟩ (.bool true)) g n fun x => P x ∨ x = k := by
  obtain ⟨T, h1, h2⟩ := h
  refine ⟨T.set k true, ?_, fun x hx => ?_⟩
  · have := own_set h1 hk (.bool true)
    rw [show bv (T.set k true) = (bv T).set k (.bool true) from by simp [bv, List.map_set]]
    exact this
  · have hl : T.length = n := by have := h1.1; simpa [bv] using this
    by_cases e : x = k
    · subst e
      rw [List.getElem?_set_self (by omega), tb_true (.inr rfl)]
    · rw [List.getElem?_set_ne (fun h => e h.symm), h2 x hx]
      by_cases hp : P x
      · rw [tb_true hp, tb_true (.inl hp)]
      · rw [tb_false hp, tb_false (fun h => h.elim hp e)]
theorem BRow.keep {w w' : World} {g n : Nat} {P : Nat → Prop} (h : BRow w g n P) {S : Nat → Prop} (hk : Kept S w w') (hS : ¬ S g) : BRow w' g n P := by
  obtain ⟨T, h1, h2⟩ := h
  exact ⟨T, ownsRow_keep h1 hk (fun k hk' => by simp [Value.ownBlock] at hk'; subst hk'; exact hS), h2⟩
theorem BRow.obj {w : World} {g n : Nat} {P : Nat → Prop} (h : BRow w g n P) : ∃ A, w.heap[g]? = some (.cells A 4 (0, 0)) := by
  obtain ⟨T, h1, h2⟩ := h
  exact own_obj h1 rfl
/-- A row of other things is no row of bools. -/
theorem BRow.apart {w : World} {g n : Nat} {P : Nat → Prop} (h : BRow w g n P) {e : TypeId} {v : Value} {m : Nat} {xs : List Value} (ho : w.ownsRow 0 e 1 v m xs) (he : e ≠ 4) : ¬ rowOf v g := fun hk => by
  obtain ⟨A, hA⟩ := h.obj
  exact ownsRow_type ho hA he hk

/-- The first s rows of the matrix are laid. -/
def Mat (w : World) (g n s : Nat) (R : Nat → Nat → Prop) : Prop := ∃ rs, w.ownsRow 0 52 1 (.slice (some ⟨g, 0, Option.none⟩) n n) n rs ∧
  ∀ (i : Nat) u, i < s → rs[i]? = some u → ∃ b, u = .slice (some ⟨b, 0, Option.none⟩) n n ∧ b ≠ g ∧ ∀ j, j < n → w.cell? ⟨b, j, Option.none⟩ = some (.bool (tb (R i j)))

theorem Mat.start (w : World) {n : Nat} (hn : n ≤ maxLen) (R : Nat → Nat → Prop) : Mat (w.alloc (.cells (madeCells #[.slice Option.none 0 0] n) 52)) w.heap.size n 0 R := ⟨_, own_made w 52 _ hn, fun i u hi => by omega⟩
theorem Mat.kept {w w' : World} {g n s : Nat} {R : Nat → Nat → Prop} (h : Mat w g n s R) (hk : Kept nothing w w') : Mat w' g n s R := by
  obtain ⟨rs, h1, h2⟩ := h
  refine ⟨rs, ownsRow_keep h1 hk (fun _ _ => id), fun i u hi hu => ?_⟩
  obtain ⟨b, e, hb, hc⟩ := h2 i u hi hu
  exact ⟨b, e, hb, fun j hj => hk.cell (hc j hj) id⟩
theorem Mat.old {w : World} {g n s : Nat} {R : Nat → Nat → Prop} (h : Mat w g n s R) {i : Nat} (hi : i < n) : ∃ u, w.cell? ⟨g, i, Option.none⟩ = some u ∧ w.frozen? ⟨g, i, Option.none⟩ = false := by
  obtain ⟨rs, h1, h2⟩ := h
  have hl : rs.length = n := by have := h1.1; omega
  obtain ⟨u, hu⟩ : ∃ u, rs[i]? = some u := ⟨_, List.getElem?_eq_getElem (by omega)⟩
  exact ⟨u, own_cell h1 hu⟩
theorem Mat.cell {w : World} {g n s : Nat} {R : Nat → Nat → Prop} (h : Mat w g n s R) {i : Nat} (hi : i < s) (hn : i < n) : ∃ b, w.cell? ⟨g, i, Option.none⟩ = some (.slice (some ⟨b, 0, Option.none⟩) n n) ∧ ∀ j, j < n → w.cell? ⟨b, j, Option.none⟩ = some (.bool (tb (R i j))) := by
  obtain ⟨rs, h1, h2⟩ := h
  have hl : rs.length = n := by have := h1.1; omega
  obtain ⟨u, hu⟩ : ∃ u, rs[i]? = some u := ⟨_, List.getElem?_eq_getElem (by omega)⟩
  obtain ⟨b, rfl, _, hc⟩ := h2 i u hi hu
  exact ⟨b, (own_cell h1 hu).1, hc⟩
theorem Mat.step {w w' : World} {g n s b : Nat} {R : Nat → Nat → Prop} (h : Mat w g n s R) (hk : Kept nothing w w') (hs : s < n) {P : Nat → Prop} (hb : BRow w' b n P) (hP : ∀ j, j < n → (P j ↔ R s j)) (hbw : w.heap.size ≤ b) :
    Mat (w'.setCell ⟨g, s, Option.none⟩ (.slice (some ⟨b, 0, Option.none⟩) n n)) g n (s + 1) R := by
  have gl : g < w.heap.size := by
    obtain ⟨rs, h1, h2⟩ := h
    exact ownsRow_lt h1 rfl
  obtain ⟨rs, h1, h2⟩ := h.kept hk
  have hl : rs.length = n := by have := h1.1; omega
  refine ⟨_, own_set h1 hs _, fun i u hi hu => ?_⟩
  by_cases e : i = s
  · subst e
    rw [List.getElem?_set_self (by omega)] at hu
    cases hu
    refine ⟨b, rfl, by omega, fun j hj => ?_⟩
    rw [cell_set_ne _ _ _ (by omega), ((hb.congr hP).cell hj).1]
  · rw [List.getElem?_set_ne (fun h => e h.symm)] at hu
    obtain ⟨b', e', hb', hc⟩ := h2 i u (by omega) hu
    exact ⟨b', e', hb', fun j hj => by rw [cell_set_ne _ _ _ hb']; exact hc j hj⟩

/-- The groups so far, each with a row of its own. -/
def Grp (w : World) (v : Value) (L : List (List ByteArray)) : Prop := ∃ gs, w.ownsRow 0 34 1 v L.length gs ∧ ∀ (i : Nat) u l, gs[i]? = some u → L[i]? = some l → OwnS w u l

theorem Grp.start (w : World) : Grp w (.slice Option.none 0 0) [] := ⟨[], World.ownsRow_nil _ _ _ _, fun i u l hu => by simp at hu⟩
theorem Grp.kept {w w' : World} {v : Value} {L : List (List ByteArray)} (h : Grp w v L) {S : Nat → Prop} (hk : Kept S w w') (hS : ∀ k A t, S k → w.heap[k]? = some (.cells A t (0, 0)) → t ≠ 9 ∧ t ≠ 34) : Grp w' v L := by
  obtain ⟨gs, h1, h2⟩ := h
  refine ⟨gs, ownsRow_keep h1 hk (fun k hk' hs => ?_), fun i u l hu hl => ownsRow_keep (h2 i u l hu hl) hk (fun k hk' hs => ?_)⟩
  · obtain ⟨A, hA⟩ := own_obj h1 hk'
    exact (hS k A _ hs hA).2 rfl
  · obtain ⟨A, hA⟩ := own_obj (h2 i u l hu hl) hk'
    exact (hS k A _ hs hA).1 rfl
theorem Grp.kept0 {w w' : World} {v : Value} {L : List (List ByteArray)} (h : Grp w v L) (hk : Kept nothing w w') : Grp w' v L := h.kept hk fun _ _ _ h => h.elim
theorem Grp.at {w : World} {v : Value} {L : List (List ByteArray)} (h : Grp w v L) : GroupsAt w v L := by
  obtain ⟨gs, h1, h2⟩ := h
  obtain ⟨ao, cap, e, _, _, ha, _⟩ := own_at h1
  refine ⟨ao, cap, gs, e, by have := h1.1; omega, ha, fun i u l hu hl => ?_⟩
  obtain ⟨ai, ci, e', _, _, ha', _⟩ := own_at (h2 i u l hu hl)
  exact ⟨ai, ci, e', ha'⟩
theorem Grp.push {w : World} {v u : Value} {L : List (List ByteArray)} {l : List ByteArray} (h : Grp w v L) (hu : OwnS w u l) (hL : L.length ≤ 1048576) :
    ∃ v' w', (Builtin.append_ #[26, 26] 26 #[v, .slice (some ⟨w.heap.size, 0, Option.none⟩) 1 1]).run Try.prog (w.alloc (.cells #[u] 34)) = .ok v' w' ∧ Grp w' v' (L ++ [l]) ∧ Kept (rowOf v) w w' ∧ Onward w v v' := by
  obtain ⟨gs, h1, h2⟩ := h
  have hx : u.oneCell' = true := by
    obtain ⟨ao, cap, e, _⟩ := own_at hu
    rw [e]; rfl
  obtain ⟨v', w', hrun, o1, k1, on1⟩ := push_any 26 34 _ 24 Try.underlying26 info34 rfl (by decide) h1 u hx hL
  have hgl : gs.length = L.length := by have := h1.1; omega
  refine ⟨v', w', hrun, ⟨gs ++ [u], by rw [List.length_append]; exact o1, fun i x m hx hm => ?_⟩, k1, on1⟩
  have keep : ∀ x m, OwnS w x m → OwnS w' x m := fun x m ho => ownsRow_keep ho k1 (fun k hk => own_apart ho h1 (by decide) hk)
  by_cases e : i < L.length
  · rw [List.getElem?_append_left (by omega)] at hx hm
    exact keep x m (h2 i x m hx hm)
  · rw [List.getElem?_append_right (by omega)] at hx hm
    rw [hgl] at hx
    have hz : i - L.length = 0 := by
      have := (List.getElem?_eq_some_iff.1 hx).1
      simp at this
      omega
    rw [hz] at hx hm
    cases hx
    cases hm
    exact keep _ _ hu

end Go.Proofs.Qxb6626223a.Mat
