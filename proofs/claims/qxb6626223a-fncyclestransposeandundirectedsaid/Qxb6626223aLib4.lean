/-
  slices.SortFunc(groups, slices.Compare), in this seat's words.
-/
import Derived.Test.Qxb6626223aLib3
namespace Go.Proofs.Qxb6626223a.LibC
open Go.RowKit
open Go.Proofs.Qxb6626223a.MapsV
open Go.Proofs.Qxb6626223a.Canon
open Go.Proofs.Qxb6626223a.Frame Go.Proofs.Qxb6626223a.Order Go.Proofs.Qxb6626223a.Find Go.Proofs.Qxb6626223a.RowsS Go.Proofs.Qxb6626223a.Insert Go.Proofs.Qxb6626223a.Agents Go.Proofs.Qxb6626223a.Same Go.Proofs.Qxb6626223a.Nest Go.Proofs.Qxb6626223a.Index Go.Proofs.Qxb6626223a.Mat
open Go.Sort (grow putRow Holds)
set_option linter.unusedVariables false
set_option linter.unusedSimpArgs false

theorem slt_asymm {a b : ByteArray} (h : slt a b) : ¬ slt b a := fun k => slt_irr a (slt_trans _ _ _ h k)
theorem cons_lt {x y : ByteArray} (h : slt x y) (r s : List ByteArray) : cmpL (x :: r) (y :: s) = -1 := by
  show (if slt x y then -1 else _) = (-1 : Int)
  rw [if_pos h]
theorem cons_gt {x y : ByteArray} (h : slt y x) (r s : List ByteArray) : cmpL (x :: r) (y :: s) = 1 := by
  show (if slt x y then -1 else if slt y x then 1 else _) = (1 : Int)
  rw [if_neg (slt_asymm h), if_pos h]
theorem cons_eq (x : ByteArray) (r s : List ByteArray) : cmpL (x :: r) (x :: s) = cmpL r s := by
  show (if slt x x then -1 else if slt x x then 1 else _) = cmpL r s
  rw [if_neg (slt_irr x), if_neg (slt_irr x)]
theorem tri (x y : ByteArray) : slt x y ∨ slt y x ∨ x = y := by
  by_cases h1 : slt x y
  · exact .inl h1
  · by_cases h2 : slt y x
    · exact .inr (.inl h2)
    · exact .inr (.inr (slt_total x y h1 h2))

theorem cmpL_self : ∀ l : List ByteArray, cmpL l l = 0
  | [] => rfl
  | a :: r => by rw [cons_eq]; exact cmpL_self r
theorem cmpL_swap : ∀ a b : List ByteArray, cmpL a b = - cmpL b a
  | [], [] => rfl
  | [], _ :: _ => rfl
  | _ :: _, [] => rfl
  | x :: r, y :: s => by
    rcases tri x y with h | h | rfl
    · rw [cons_lt h, cons_gt h]
    · rw [cons_gt h, cons_lt h]; rfl
    · rw [cons_eq, cons_eq]; exact cmpL_swap r s
theorem cmpL_trans : ∀ a b c : List ByteArray, (cmpL a b ≤ 0 → cmpL b c ≤ 0 → cmpL a c ≤ 0) ∧ (cmpL a b < 0 → cmpL b c < 0 → cmpL a c < 0)
  | [], [], [] => ⟨fun _ _ => Int.le_refl _, fun h _ => h⟩
  | [], [], _ :: _ => ⟨fun _ h => h, fun _ h => h⟩
  | [], _ :: _, [] => ⟨fun _ _ => Int.le_refl _, fun _ h => absurd (show (1 : Int) < 0 from h) (by decide)⟩
  | [], _ :: _, _ :: _ => ⟨fun _ _ => show (-1 : Int) ≤ 0 by decide, fun _ _ => show (-1 : Int) < 0 by decide⟩
  | _ :: _, [], _ => ⟨fun h _ => absurd (show (1 : Int) ≤ 0 from h) (by decide), fun h _ => absurd (show (1 : Int) < 0 from h) (by decide)⟩
  | _ :: _, _ :: _, [] => ⟨fun _ h => absurd (show (1 : Int) ≤ 0 from h) (by decide), fun _ h => absurd (show (1 : Int) < 0 from h) (by decide)⟩
  | x :: r, y :: s, z :: t => by
    rcases tri x y with h | h | rfl
    · rcases tri y z with k | k | rfl
      · rw [cons_lt (slt_trans _ _ _ h k)]
        exact ⟨fun _ _ => by decide, fun _ _ => by decide⟩
      · rw [cons_gt k]
        exact ⟨fun _ h => absurd h (by decide), fun _ h => absurd h (by decide)⟩
      · rw [cons_lt h, cons_lt h]
        exact ⟨fun _ _ => by decide, fun _ _ => by decide⟩
    · rw [cons_gt h]
      exact ⟨fun h _ => absurd h (by decide), fun h _ => absurd h (by decide)⟩
    · rcases tri x z with k | k | rfl
      · rw [cons_lt k, cons_lt k]
        exact ⟨fun _ _ => by decide, fun _ _ => by decide⟩
      · rw [cons_gt k, cons_gt k]
        exact ⟨fun _ h => h, fun _ h => h⟩
      · rw [cons_eq, cons_eq, cons_eq]
        exact cmpL_trans r s t

/-- u reads as the group l, outside block blk. -/
def Rd (w : World) (blk : Nat) (p : Value × List ByteArray) : Prop := ∃ ai ci, p.1 = .slice ai p.2.length ci ∧ At w ai (strs p.2) ∧ p.2.length ≤ 65536 ∧ ∀ a, ai = some a → a.block ≠ blk

theorem Rd.kept {w w' : World} {blk : Nat} {p : Value × List ByteArray} (h : Rd w blk p) (hk : Kept (fun k => k = blk) w w') : Rd w' blk p := by
  obtain ⟨ai, ci, e, ha, hl, hb⟩ := h
  exact ⟨ai, ci, e, At.kept ha hk hb, hl, hb⟩

abbrev Gr (w : World) (blk : Nat) := {p : Value × List ByteArray // Rd w blk p}
instance (w : World) (blk : Nat) : Inhabited (Gr w blk) := ⟨⟨(.slice Option.none 0 0, []), Option.none, 0, rfl, fun i x hx => by simp [strs] at hx, Nat.zero_le _, fun a h => by cases h⟩⟩
def encG {w : World} {blk : Nat} (x : Gr w blk) : Value := x.1.1
def cfG {w : World} {blk : Nat} (x y : Gr w blk) : Int := cmpL x.1.2 y.1.2

theorem one_enc (w : World) (blk : Nat) : OneCell (encG (w := w) (blk := blk)) := fun x => by
  obtain ⟨⟨u, l⟩, ai, ci, e, _⟩ := x
  show u.oneCell' = true
  simp only at e
  rw [e]
  rfl

theorem lt_iff {w : World} {blk : Nat} (x y : Gr w blk) : ltOf cfG x y = true ↔ cmpL x.1.2 y.1.2 < 0 := by
  show decide (cmpL x.1.2 y.1.2 < 0) = true ↔ _
  exact decide_eq_true_iff
theorem lt_iff_not {w : World} {blk : Nat} (x y : Gr w blk) : ltOf cfG x y = false ↔ ¬ cmpL x.1.2 y.1.2 < 0 := by
  show decide (cmpL x.1.2 y.1.2 < 0) = false ↔ _
  exact decide_eq_false_iff_not

theorem swo (w : World) (blk : Nat) : Go.Sort.SWO (ltOf (cfG (w := w) (blk := blk))) := by
  refine ⟨fun x => ?_, fun x y z h1 h2 => ?_, fun x y z h1 h2 => ?_⟩
  · rw [lt_iff_not, cmpL_self]; decide
  · rw [lt_iff] at *
    exact (cmpL_trans _ _ _).2 h1 h2
  · rw [lt_iff_not] at *
    have a := cmpL_swap x.1.2 y.1.2
    have b := cmpL_swap y.1.2 z.1.2
    have c := cmpL_swap x.1.2 z.1.2
    have := (cmpL_trans z.1.2 y.1.2 x.1.2).1 (by omega) (by omega)
    omega

theorem cmp_lays (w : World) (blk size : Nat) : CmpLays1 Try.prog 19 #[] (encG (w := w) (blk := blk)) cfG blk 0 size w := by
  intro m os dk hs x y
  obtain ⟨⟨u, l⟩, ai, ci, e, ha, hl, hb⟩ := x
  obtain ⟨⟨u', l'⟩, ai', ci', e', ha', hl', hb'⟩ := y
  simp only at e e' ha ha' hl hl'
  subst e e'
  have hk := kept_put (encG (w := w) (blk := blk)) w blk dk m os
  refine (compare_any ai ai' l.length l'.length ci ci' l l' _ (At.kept ha hk hb) (At.kept ha' hk hb') rfl rfl hl hl').mono ?_
  rintro e w' ⟨rfl, hw⟩
  exact ⟨rfl, 0, #[], by rw [hw, Sort.grow_empty]; rfl⟩

theorem sortFunc_any (g n cap : Nat) (gs : List Value) (L : List (List ByteArray)) (w : World) (ho : w.ownsRow 0 34 1 (.slice (some ⟨g, 0, Option.none⟩) n cap) n gs) (hl : L.length = n) (hn : n ≤ 65536)
    (hi : ∀ (i : Nat) u l, gs[i]? = some u → L[i]? = some l → Rd w g (u, l)) :
    Calls Try.prog 18 #[.slice (some ⟨g, 0, Option.none⟩) n cap, .func (.func 19) #[] #[]] w fun e w' => e = .returned (.tuple #[]) ∧ ∃ (L' : List (List ByteArray)) (gs' : List Value), L'.Perm L ∧ L'.Pairwise (fun a b => ¬ cmpL b a < 0) ∧
      w'.ownsRow 0 34 1 (.slice (some ⟨g, 0, Option.none⟩) n cap) n gs' ∧ (∀ (i : Nat) u l, gs'[i]? = some u → L'[i]? = some l → Rd w' g (u, l)) ∧ Kept (fun k => k = g) w w' := by
  have hgl : gs.length = n := by have := ho.1; omega
  have H : ∀ p ∈ gs.zip L, Rd w g p := fun p hp => by
    obtain ⟨i, h⟩ := List.getElem?_of_mem hp
    obtain ⟨u, l⟩ := p
    rw [List.getElem?_zip_eq_some] at h
    exact hi i u l h.1 h.2
  obtain ⟨ds, hds⟩ : ∃ ds : List (Gr w g), ds = (gs.zip L).pmap Subtype.mk H := ⟨_, rfl⟩
  have e0 : ds.map Subtype.val = gs.zip L := by rw [hds, List.map_pmap, List.pmap_eq_map, List.map_id']
  have e1 : ds.map encG = gs := by
    have : ds.map encG = (ds.map Subtype.val).map Prod.fst := by rw [List.map_map]; rfl
    rw [this, e0, List.map_fst_zip (by omega)]
  have e2 : ds.map (fun x => x.1.2) = L := by
    have : ds.map (fun x => x.1.2) = (ds.map Subtype.val).map Prod.snd := by rw [List.map_map]; rfl
    rw [this, e0, List.map_snd_zip (by omega)]
  have hdl : ds.length = n := by rw [← hgl, ← e1, List.length_map]
  have hH : Holds encG w g 0 ds.toArray := fun j hj => by
    simp at hj
    have hx : gs[j]? = some (encG ds[j]) := by rw [← e1, List.getElem?_map, List.getElem?_eq_getElem hj]; rfl
    have := own_cell ho hx
    rw [Nat.zero_add]
    simpa [hj] using this
  have hC := Any.slices_SortFunc Try.laysSlF6_f18 (encG (w := w) (blk := g)) (one_enc w g) cfG (swo w g) 19 #[] g 0 cap ds.toArray w (enters_of Try.func19 (by kernel_rfl) rfl) (cmp_lays w g _) hH (ownsRow_lt ho rfl) (by simp; omega)
  have e3 : ds.toArray.size = n := by simp [hdl]
  rw [e3] at hC
  refine hC.mono ?_
  rintro e w' ⟨rfl, d', m, os, hperm, hsort, rfl⟩
  obtain ⟨p1, p2, p3⟩ := hperm
  have d'l : d'.size = n := by omega
  have hp : d'.toList.Perm ds := by
    rw [Array.extract_eq_self_of_le (by omega), Array.extract_eq_self_of_le (by omega)] at p3
    exact p3
  have hk := kept_put (encG (w := w) (blk := g)) w g d' m os
  refine ⟨rfl, d'.toList.map (fun x => x.1.2), d'.toList.map encG, ?_, ?_, own_put encG ho d' d'l m os, fun i u l hu hl' => ?_, hk⟩
  · have := hp.map (fun x : Gr w g => x.1.2)
    rw [e2] at this
    exact this
  · rw [List.pairwise_map, List.pairwise_iff_getElem]
    intro i j hi' hj' hij
    have hj2 : j < d'.size := by simpa using hj'
    have hi2 : i < d'.size := by simpa using hi'
    have := hsort i j (Nat.zero_le _) hij (by omega)
    rw [lt_iff_not, getElem!_pos d' j hj2, getElem!_pos d' i hi2] at this
    simpa using this
  · rw [List.getElem?_map] at hu hl'
    cases hx : d'.toList[i]? with
    | none => rw [hx] at hu; cases hu
    | some x =>
      rw [hx] at hu hl'
      cases hu
      cases hl'
      exact Rd.kept x.2 hk

theorem sortFunc_none (p : Option Addr) (cap : Nat) (fv : Value) (w : World) : Calls Try.prog 18 #[.slice p 0 cap, fv] w fun e w' => e = .returned (.tuple #[]) ∧ w' = w :=
  AnyF.slices_SortFunc_none Try.laysSlF06_f18 p cap fv w

end Go.Proofs.Qxb6626223a.LibC
