/-
  slices.Sorted(maps.Keys(m)), slices.Index, slices.Clone, slices.Compare, in this seat's words.
-/
import Derived.Test.Qxb6626223aLib
namespace Go.Proofs.Qxb6626223a.LibC
open Go.RowKit
open Go.Proofs.Qxb6626223a.MapsV
open Go.Proofs.Qxb6626223a.Frame Go.Proofs.Qxb6626223a.Order Go.Proofs.Qxb6626223a.Find Go.Proofs.Qxb6626223a.RowsS Go.Proofs.Qxb6626223a.Insert Go.Proofs.Qxb6626223a.Agents Go.Proofs.Qxb6626223a.Same Go.Proofs.Qxb6626223a.Nest Go.Proofs.Qxb6626223a.Index Go.Proofs.Qxb6626223a.Mat
open Go.Sort (grow putRow Holds)
set_option linter.unusedVariables false
set_option linter.unusedSimpArgs false

/-- slices.Sort's two contracts at this dump, at the fence that asks nothing. -/
theorem sorts16 (m : Nat) : AnyZ.SortsIn Try.prog Try.sorted16_ren Fence.wide m :=
  ⟨fun blk off cap ss W hH hblk hsz => callsIn_wide.2 (AnyM.slices_Sort_string Try.laysSlM6_f15 blk off cap ss W hH hblk hsz),
   fun p cap W => callsIn_wide.2 (AnyM.slices_Sort_string_none Try.laysSlM6_f15 p cap W)⟩

theorem keys_any (b : Nat) (w : World) : Calls Try.prog 17 #[.map (some b)] w fun e w' => e = .returned (.func (.func 26) #[] #[.pointer (some ⟨w.heap.size, 0, Option.none⟩)]) ∧ w' = w.alloc (.cells #[.map (some b)] 33) :=
  (callsIn_wide (n := 5)).1 (AnyZ.keys_in Try.keys17 Fence.wide 5 trivial rfl (some b) w)

set_option maxHeartbeats 1000000 in
theorem sorted_keys {H : Type} (b nn : Nat) (D0 : DataW H) (R : Value → Option (DataW H × List MemPlace)) (w : World) (hown : w.ownsMap Try.prog 9 R b nn D0) (hmax : Maps.size D0 ≤ maxLen) (hbytes : Maps.size D0 * 16 ≤ 140737488355328) :
    CallsIn Fence.wide 5 Try.prog 16 #[.func (.func 26) #[] #[.pointer (some ⟨w.heap.size, 0, none⟩)]] (w.alloc (.cells #[.map (some b)] 33)) fun e w' => ∃ (v : Value) (ss : List (List UInt8)), e = .returned v ∧ ss.Perm (strKeys D0) ∧
      w'.ownsRow (w.alloc (.cells #[.map (some b)] 33)).heap.size 9 1 v ss.length ((ss.mergeSort (fun x y => decide (x ≤ y))).map encStr) ∧ (v = .slice none 0 0 ↔ ss = []) ∧ Below (w.alloc (.cells #[.map (some b)] 33)).heap.size (w.alloc (.cells #[.map (some b)] 33)) w' := by
  have hbl := hown.lt
  have hseq : SeqGives Fence.wide 2 Try.prog 26 #[.pointer (some ⟨w.heap.size, 0, none⟩)] encStr (fun ss => ss.Perm (strKeys D0)) (Maps.size D0) (w.alloc (.cells #[.map (some b)] 33)) :=
    AnyZ.keys_gives (ρ := Try.keys17_ren) { Try.keys17 with } Fence.wide _ trivial rfl (by omega) w.heap.size b nn D0 _ (by simp) (by simp) (by
      obtain ⟨es, clock, hb, Ft, hs, hD⟩ := hown
      exact ⟨es, clock, (Below.heap_alloc _ _ b hbl).trans hb, Ft, hs, hD⟩)
  exact AnyZ.sorted_in Try.sorted16 Fence.wide 5 trivial trivial trivial trivial rfl (by omega) (sorts16 _) (enters_of Try.func15 (by kernel_rfl) rfl) 26 #[.pointer (some ⟨w.heap.size, 0, none⟩)] trivial (enters_of Try.func26 (by kernel_rfl) rfl) _ _ hmax hbytes _ hseq

theorem sorted_any (b n : Nat) (f : ByteArray → Option Value) (w : World) (h : IsM w b n f) (hn : n ≤ 65536) :
    Calls Try.prog 16 #[.func (.func 26) #[] #[.pointer (some ⟨w.heap.size, 0, Option.none⟩)]] (w.alloc (.cells #[.map (some b)] 33)) fun e w' => ∃ v K, e = .returned v ∧ OwnS w' v K ∧ (∀ s, s ∈ K ↔ f s ≠ Option.none) ∧ K.length = n ∧ Kept nothing w w' ∧ Fresh w v := by
  obtain ⟨D, h1, h2, h3⟩ := h
  refine ((callsIn_wide (n := 5)).1 (sorted_keys b n D tok w h1 (by rw [h2]; unfold maxLen; omega) (by rw [h2]; omega))).mono ?_
  rintro e w' ⟨v, ss, rfl, hp, hrow, _, hb⟩
  have kn : Kept nothing w w' := (Kept.of_below (S := nothing) hb).alloc_from
  have hrow' : w'.ownsRow 0 9 1 v ss.length ((ss.mergeSort (fun x y => decide (x ≤ y))).map encStr) := by
    obtain ⟨r1, r2⟩ := hrow
    refine ⟨r1, ?_⟩
    rcases r2 with r2 | ⟨g, cap, cur, he, hbb, rest⟩
    · exact .inl r2
    · exact .inr ⟨g, cap, cur, he, Nat.zero_le _, rest⟩
  have fr : Fresh w v := fun k hk => by
    obtain ⟨r1, r2⟩ := hrow
    rcases r2 with ⟨rfl, _⟩ | ⟨g, cap, cur, rfl, hbb, rest⟩
    · simp [Value.ownBlock] at hk
    · simp [Value.ownBlock] at hk
      subst hk
      rw [World.size_alloc] at hbb
      omega
  refine ⟨v, (ss.mergeSort fun x y => decide (x ≤ y)).map ofB, rfl, ?_, fun s => ?_, ?_, kn, fr⟩
  · unfold OwnS
    rw [List.length_map, List.length_mergeSort, ← map_ofB]
    exact hrow'
  · have hm := mem_keys h1 s
    have : s ∈ (ss.mergeSort fun x y => decide (x ≤ y)).map ofB ↔ toB s ∈ strKeys D := by
      rw [List.mem_map]
      constructor
      · rintro ⟨x, hx, rfl⟩
        rw [toB_ofB]
        exact hp.mem_iff.1 (List.mem_mergeSort.1 hx)
      · intro hx
        exact ⟨toB s, List.mem_mergeSort.2 (hp.mem_iff.2 hx), ofB_toB s⟩
    rw [this, hm]
    constructor
    · intro hh e
      rw [(h3 s).1 e] at hh
      cases hh
    · intro hne
      cases hf : f s with
      | none => exact absurd hf hne
      | some v => exact ((h3 s).2 v hf).1
  · rw [List.length_map, List.length_mergeSort, hp.length_eq]
    obtain ⟨es, rfl, _⟩ := h1.keysOf
    show (es.map _).length = n
    rw [List.length_map]
    exact h2

set_option maxHeartbeats 1000000 in
set_option maxRecDepth 100000 in
theorem index_any (ao : Option Addr) (n cap : Nat) (p r : List ByteArray) (x : ByteArray) (w : World) (ha : At w ao (strs (p ++ x :: r))) (hl : (p ++ x :: r).length = n) (hn : n ≤ 65536) (hp : x ∉ p) :
    Calls Try.prog 13 #[.slice ao n cap, .string x] w fun e w' => e = .returned (.int .i64 (p.length : Int)) ∧ w' = w := by
  have HA : Hid (At w ao (strs (p ++ x :: r))) := ha
  have HP : Hid (x ∉ p) := hp
  obtain ⟨m, hm⟩ : ∃ m, p.length = m := ⟨_, rfl⟩
  have HM : Hid (p.length = m) := hm
  have hmn : m < n := by rw [← hl, ← hm]; simp
  rw [hm]
  clear ha hp hl hm
  go_enter Try.func13, Try.ntmps13
  go_wp2
  go_loop [8] (fun xv => ∃ i : Nat, i ≤ m ∧ xv = .int .i64 i) (fun xv => n - (intOf xv).toNat)
  case atStart => exact ⟨0, Nat.zero_le _, by go_num⟩
  case round =>
    obtain ⟨i, hi, rfl⟩ := hrel
    by_cases hlt : i < m
    · obtain ⟨s, hs⟩ : ∃ s, p[i]? = some s := ⟨_, List.getElem?_eq_getElem (by rw [HM.out]; exact hlt)⟩
      obtain ⟨g, off, rfl, d1⟩ := HA.out i (.string s) (by
        have : (p ++ x :: r)[i]? = some s := by rw [List.getElem?_append_left (by rw [HM.out]; exact hlt)]; exact hs
        rw [strs, List.getElem?_map, this]; rfl)
      have hne : (x.toList == s.toList) = false := beq_eq_false_iff_ne.2 fun e => by
        rw [ByteArray.toList_eq, ByteArray.toList_eq] at e
        exact HP.out (by rw [WideShapes.bytes_inj e]; exact List.mem_of_getElem? hs)
      have hin : i < n := by omega
      clear hs
      go_wp2
      go_round
      case rel => exact ⟨i + 1, by omega, by go_num⟩
      case measure => simp [intOf]; omega
    · obtain rfl : i = m := by omega
      obtain ⟨g, off, rfl, d1⟩ := HA.out i (.string x) (by
        have : (p ++ x :: r)[i]? = some x := by rw [List.getElem?_append_right (by rw [HM.out]; exact Nat.le_refl _), HM.out]; simp
        rw [strs, List.getElem?_map, this]; rfl)
      go_wp2
      go_ret
      exact ⟨rfl, rfl⟩

theorem nan_any (s : ByteArray) (w : World) : Calls Try.prog 50 #[.string s] w fun e w' => e = .returned (.bool false) ∧ w' = w := by
  go_enter Try.func50, Try.ntmps50
  go_wp2
  go_ret
  exact ⟨rfl, rfl⟩

/-- Compared byte by byte. -/
def cmpS (a b : ByteArray) : Int := if slt a b then -1 else if slt b a then 1 else 0
/-- Compared agent by agent. -/
def cmpL : List ByteArray → List ByteArray → Int
  | [], [] => 0
  | [], _ :: _ => -1
  | _ :: _, [] => 1
  | a :: r, b :: s => if slt a b then -1 else if slt b a then 1 else cmpL r s

theorem gtr_s (a b : ByteArray) : binOp .gtr 9 (.string a) (.string b) = pure (.bool !(Op.bytesLess a.toList b.toList || a.toList == b.toList)) := by simp [binOp, Op.stringOp]

set_option maxHeartbeats 1000000 in
set_option maxRecDepth 100000 in
theorem compareS_any (a b : ByteArray) (w : World) : Calls Try.prog 28 #[.string a, .string b] w fun e w' => e = .returned (.int .i64 (cmpS a b)) ∧ w' = w := by
  unfold cmpS
  by_cases h1 : Op.bytesLess a.toList b.toList = true
  · rw [if_pos (show slt a b from h1)]
    go_enter Try.func28, Try.ntmps28
    go_wp2_with (go_at_call 50; refine (nan_any _ _).mono ?_; rintro e w' ⟨rfl, rfl⟩)
    go_ret
    exact ⟨rfl, rfl⟩
  · rw [if_neg (show ¬ slt a b from h1)]
    by_cases h2 : Op.bytesLess b.toList a.toList = true
    · rw [if_pos (show slt b a from h2)]
      replace h1 : Op.bytesLess a.toList b.toList = false := by simpa using h1
      have hg := gtr_s a b
      rw [h1, beq_eq_false_iff_ne.2 (fun e => by rw [e] at h2; exact slt_irr b h2)] at hg
      simp only [Bool.or_self, Bool.not_false] at hg
      go_enter Try.func28, Try.ntmps28
      go_wp2_with (go_at_call 50; refine (nan_any _ _).mono ?_; rintro e w' ⟨rfl, rfl⟩)
      go_ret
      exact ⟨rfl, rfl⟩
    · rw [if_neg (show ¬ slt b a from h2)]
      replace h1 : Op.bytesLess a.toList b.toList = false := by simpa using h1
      have e := slt_total a b (by unfold slt; rw [h1]; simp) h2
      subst e
      have hg := gtr_s a a
      rw [beq_self_eq_true, Bool.or_true, Bool.not_true] at hg
      clear h2
      go_enter Try.func28, Try.ntmps28
      go_wp2_with (go_at_call 50; refine (nan_any _ _).mono ?_; rintro e w' ⟨rfl, rfl⟩)
      go_ret
      exact ⟨rfl, rfl⟩

end Go.Proofs.Qxb6626223a.LibC
