/-
  THE WALK of zzRoot, and the components by number.
-/
import Derived.Test.Qxb6626223aMutual
namespace Go.Proofs.Qxb6626223a.Root
open Go.RowKit
open Go.Proofs.Qxb6626223a.Canon Go.Proofs.Qxb6626223a.Graph Go.Proofs.Qxb6626223a.PlainG Go.Proofs.Qxb6626223a.PlainU
open Go.Proofs.Qxb6626223a.Frame Go.Proofs.Qxb6626223a.Order Go.Proofs.Qxb6626223a.Find Go.Proofs.Qxb6626223a.RowsS Go.Proofs.Qxb6626223a.Insert Go.Proofs.Qxb6626223a.Agents Go.Proofs.Qxb6626223a.Same Go.Proofs.Qxb6626223a.Nest Go.Proofs.Qxb6626223a.Index Go.Proofs.Qxb6626223a.Mat Go.Proofs.Qxb6626223a.MutualW
set_option linter.unusedVariables false
set_option linter.unusedSimpArgs false

/-- A row of n numbers. -/
def IRow (w : World) (g n : Nat) (ps : List Nat) : Prop := w.ownsRow 0 3 1 (.slice (some ⟨g, 0, Option.none⟩) n n) n (iv ps)

theorem IRow.len {w : World} {g n : Nat} {ps : List Nat} (h : IRow w g n ps) : ps.length = n := by
  have := h.1
  simpa [iv] using this
theorem IRow.cell {w : World} {g n : Nat} {ps : List Nat} (h : IRow w g n ps) {x q : Nat} (hx : ps[x]? = some q) : w.cell? ⟨g, x, Option.none⟩ = some (.int .i64 (q : Int)) ∧ w.frozen? ⟨g, x, Option.none⟩ = false := own_cell h (by simp [iv, hx])
theorem IRow.set {w : World} {g n : Nat} {ps : List Nat} (h : IRow w g n ps) {x : Nat} (hx : x < n) (q : Nat) : IRow (w.setCell ⟨g, x, Option.none⟩ (.int .i64 (q : Int))) g n (ps.set x q) := by
  have := own_set h hx (.int .i64 (q : Int))
  unfold IRow
  rw [show iv (ps.set x q) = (iv ps).set x (.int .i64 (q : Int)) from by simp [iv, List.map_set]]
  exact this
theorem IRow.kept {w w' : World} {g n : Nat} {ps : List Nat} (h : IRow w g n ps) {S : Nat → Prop} (hk : Kept S w w') (hS : ¬ S g) : IRow w' g n ps := ownsRow_keep h hk fun k hk' => by
  simp [Value.ownBlock] at hk'
  subst hk'
  exact hS
theorem IRow.start (w : World) {n : Nat} (hn : n ≤ maxLen) : IRow (w.alloc (.cells (madeCells #[.int .i64 0] n) 3)) w.heap.size n (List.replicate n 0) := by
  have := own_made w 3 (.int .i64 0) hn
  simpa [IRow, iv] using this
theorem IRow.lt {w : World} {g n : Nat} {ps : List Nat} (h : IRow w g n ps) : g < w.heap.size := ownsRow_lt h rfl

set_option maxHeartbeats 1000000 in
set_option maxRecDepth 100000 in
theorem root_any (g n : Nat) (ps : List Nat) (rt : Nat → Nat) (A : List ByteArray) (E : List (ByteArray × ByteArray)) (x : Nat) (w : World) (ho : IRow w g n ps) (hu : UF A E ps rt) (hx : x < n) (hn : n ≤ 65536) :
    Calls Try.prog 22 #[.slice (some ⟨g, 0, Option.none⟩) n n, .int .i64 (x : Int)] w fun e w' => (∃ r : Nat, e = .returned (.int .i64 (r : Int)) ∧ r = rt x ∧ r < n ∧ ps[r]? = some r) ∧ w' = w := by
  have HO : Hid (IRow w g n ps) := ho
  have HU : Hid (UF A E ps rt) := hu
  clear ho hu
  go_enter Try.func22, Try.ntmps22
  go_wp2
  go_loop [1] (fun xv => ∃ y : Nat, y < n ∧ xv = .int .i64 y ∧ Hid (rt y = rt x)) (fun xv => (intOf xv).toNat)
  case atStart => exact ⟨x, hx, by go_num, rfl⟩
  case round =>
    obtain ⟨y, hy, rfl, HR⟩ := hrel
    obtain ⟨q, hq⟩ : ∃ q, ps[y]? = some q := ⟨_, List.getElem?_eq_getElem (by rw [HO.out.len]; exact hy)⟩
    obtain ⟨c1, -⟩ := HO.out.cell hq
    obtain ⟨l1, l2, l3, l4⟩ := HU.out.le y q hq
    by_cases e : q = y
    · subst e
      have HQ : Hid (ps[q]? = some q) := hq
      have HE : Hid (q = rt x) := by
        show q = rt x
        rw [← HR.out]
        exact (l3 rfl).symm
      clear l1 l2 l3 l4 hq
      go_wp2
      go_ret
      exact ⟨⟨q, rfl, HE.out, hy, HQ.out⟩, rfl⟩
    · have hne : ¬ ((q : Int) = (y : Int)) := by omega
      have HR2 : Hid (rt q = rt x) := l2.trans HR.out
      clear l2 l3 l4 hq
      go_wp2
      go_round
      case rel => exact ⟨q, by omega, by go_num, HR2⟩
      case measure => simp [intOf]; omega

/-- The components of the first j agents, by root. -/
def CompOf (A : List ByteArray) (rt : Nat → Nat) (j : Nat) (Ls : List (List ByteArray)) : Prop :=
  Ls.length = A.length ∧ ∀ (r : Nat) l, Ls[r]? = some l → l.Sublist (A.take j) ∧ ∀ z, z ∈ l ↔ ∃ x, x < j ∧ A[x]? = some z ∧ rt x = r

theorem CompOf.start (A : List ByteArray) (rt : Nat → Nat) : CompOf A rt 0 (List.replicate A.length []) := by
  refine ⟨by simp, fun r l h => ?_⟩
  have := List.getElem?_eq_some_iff.1 h
  simp at this
  obtain ⟨_, rfl⟩ := this
  simp

theorem CompOf.step {A : List ByteArray} {rt : Nat → Nat} {j : Nat} {Ls : List (List ByteArray)} (h : CompOf A rt j Ls) {b : ByteArray} (hb : A[j]? = some b) {l : List ByteArray} (hl : Ls[rt j]? = some l) : CompOf A rt (j + 1) (Ls.set (rt j) (l ++ [b])) := by
  refine ⟨by rw [List.length_set]; exact h.1, fun r m hm => ?_⟩
  have htk : A.take (j + 1) = A.take j ++ [b] := by rw [List.take_add_one, hb]; rfl
  have hrl := (List.getElem?_eq_some_iff.1 hl).1
  by_cases e : r = rt j
  · subst e
    rw [List.getElem?_set_self hrl] at hm
    cases hm
    obtain ⟨h1, h2⟩ := h.2 _ l hl
    refine ⟨by rw [htk]; exact h1.append (List.Sublist.refl _), fun z => ?_⟩
    rw [List.mem_append, h2 z]
    constructor
    · rintro (⟨x, hx, hz, hr⟩ | hz)
      · exact ⟨x, by omega, hz, hr⟩
      · rw [List.mem_singleton.1 hz]; exact ⟨j, by omega, hb, rfl⟩
    · rintro ⟨x, hx, hz, hr⟩
      by_cases ex : x = j
      · subst ex
        rw [hb] at hz
        cases hz
        exact .inr (by simp)
      · exact .inl ⟨x, by omega, hz, hr⟩
  · rw [List.getElem?_set_ne (fun h => e h.symm)] at hm
    obtain ⟨h1, h2⟩ := h.2 r m hm
    refine ⟨by rw [htk]; exact h1.trans (List.sublist_append_left _ _), fun z => ?_⟩
    rw [h2 z]
    constructor
    · rintro ⟨x, hx, hz, hr⟩
      exact ⟨x, by omega, hz, hr⟩
    · rintro ⟨x, hx, hz, hr⟩
      by_cases ex : x = j
      · subst ex
        exact absurd hr.symm e
      · exact ⟨x, by omega, hz, hr⟩

/-- A component whose root is agent i. -/
theorem CompOf.group {A : List ByteArray} {E : List (ByteArray × ByteArray)} {ps : List Nat} {rt : Nat → Nat} {Ls : List (List ByteArray)} (h : CompOf A rt A.length Ls) (hu : UF A E ps rt) (hA : A.Pairwise slt) (hE : ∀ p ∈ E, p.1 ∈ A ∧ p.2 ∈ A) {i : Nat} {a : ByteArray} (ha : A[i]? = some a) (hr : rt i = i) {l : List ByteArray} (hl : Ls[i]? = some l) :
    (∀ z, z ∈ l ↔ Mutual (both E) a z) ∧ l.Pairwise slt ∧ (∃ t, l = a :: t) ∧ l.length ≤ A.length := by
  obtain ⟨h1, h2⟩ := h.2 i l hl
  rw [List.take_length] at h1
  have hnd := sorted_nodup hA
  have hmem : ∀ z, z ∈ l ↔ Mutual (both E) a z := fun z => by
    rw [h2 z, mutual_both both_symm]
    constructor
    · rintro ⟨x, _, hz, hx⟩
      exact (hu.rel hnd hE ha hz).1 (by rw [hx, hr])
    · intro hm
      have hz : z ∈ A := by
        by_cases e : a = z
        · subst e; exact List.mem_of_getElem? ha
        · have o : Over A (Mutual (both E)) := over_mutual fun p hp => by
            obtain ⟨c, d⟩ := p
            rcases mem_both.1 hp with hp | hp
            · exact hE _ hp
            · exact ⟨(hE _ hp).2, (hE _ hp).1⟩
          exact o.mem z a (fun e' => e e'.symm) ⟨both_reach_symm hm, hm⟩
      obtain ⟨x, hx⟩ := List.getElem?_of_mem hz
      refine ⟨x, (List.getElem?_eq_some_iff.1 hx).1, hx, ?_⟩
      rw [← (hu.rel hnd hE ha hx).2 hm, hr]
  have hs := hA.sublist h1
  refine ⟨hmem, hs, ?_, h1.length_le⟩
  have ha' : a ∈ l := (hmem a).2 ⟨.refl _, .refl _⟩
  match l, ha', hs, h2 with
  | y :: t, ha', hs, h2 =>
    rcases List.mem_cons.1 ha' with rfl | hat
    · exact ⟨t, rfl⟩
    · exfalso
      rw [List.pairwise_cons] at hs
      have hya := hs.1 a hat
      obtain ⟨x, _, hx, hrx⟩ := (h2 y).1 (by simp)
      obtain ⟨q, hq⟩ : ∃ q, ps[x]? = some q := ⟨_, List.getElem?_eq_getElem (by rw [hu.len]; exact (List.getElem?_eq_some_iff.1 hx).1)⟩
      have hle := (hu.le x q hq).2.2.2
      by_cases e : x = i
      · subst e
        rw [ha] at hx
        cases hx
        exact slt_irr _ hya
      · exact slt_irr a (slt_trans _ _ _ (at_lt hA (by omega) ha hx) hya)

/-- An agent that is no root. -/
theorem UF.skipped {A : List ByteArray} {E : List (ByteArray × ByteArray)} {ps : List Nat} {rt : Nat → Nat} (hu : UF A E ps rt) {i : Nat} {a : ByteArray} (ha : A[i]? = some a) (hr : rt i ≠ i) : ∃ (k : Nat) (b : ByteArray), k < i ∧ A[k]? = some b ∧ Mutual (both E) b a := by
  obtain ⟨b, hb, hab⟩ := hu.con i a ha
  obtain ⟨q, hq⟩ : ∃ q, ps[i]? = some q := ⟨_, List.getElem?_eq_getElem (by rw [hu.len]; exact (List.getElem?_eq_some_iff.1 ha).1)⟩
  have hle := (hu.le i q hq).2.2.2
  exact ⟨rt i, b, by omega, hb, both_reach_symm hab, hab⟩

end Go.Proofs.Qxb6626223a.Root
