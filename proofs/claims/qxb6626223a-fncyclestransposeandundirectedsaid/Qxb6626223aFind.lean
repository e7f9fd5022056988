/-
  THE WALK of zzFind.
-/
import Derived.Test.Qxb6626223aOrder
namespace Go.Proofs.Qxb6626223a.Find
open Go.RowKit
open Go.Proofs.Qxb6626223a.Frame Go.Proofs.Qxb6626223a.Order
set_option linter.unusedVariables false
set_option linter.unusedSimpArgs false

def strs (l : List ByteArray) : List Value := l.map Value.string

/-- k is the first place at which x is not greater. -/
def IsPlace (l : List ByteArray) (x : ByteArray) (k : Nat) : Prop := k ≤ l.length ∧ (∀ (i : Nat) s, i < k → l[i]? = some s → slt s x) ∧ ∀ (i : Nat) s, k ≤ i → l[i]? = some s → ¬ slt s x

theorem sorted_at {l : List ByteArray} (h : l.Pairwise slt) {i j : Nat} {s t : ByteArray} (hij : i < j) (hi : l[i]? = some s) (hj : l[j]? = some t) : slt s t := by
  obtain ⟨h1, rfl⟩ := List.getElem?_eq_some_iff.1 hi
  obtain ⟨h2, rfl⟩ := List.getElem?_eq_some_iff.1 hj
  exact List.pairwise_iff_getElem.1 h i j h1 h2 hij

set_option maxHeartbeats 1000000 in
set_option maxRecDepth 100000 in
theorem find_any (ao : Option Addr) (n cap : Nat) (l : List ByteArray) (x : ByteArray) (w : World) (ha : At w ao (strs l)) (hl : l.length = n) (hn : n ≤ 4194304) (hsrt : l.Pairwise slt) :
    Calls Try.prog 21 #[.slice ao n cap, .string x] w fun e w' => (∃ k : Nat, e = .returned (.int .i64 k) ∧ IsPlace l x k) ∧ w' = w := by
  have HA : Hid (At w ao (strs l)) := ha
  have HL : Hid (l.length = n) := hl
  have HS : Hid (l.Pairwise slt) := hsrt
  clear ha hl hsrt
  go_enter Try.func21, Try.ntmps21
  go_wp2
  go_loop [5, 6, 7] (fun lv hv mv => ∃ lo hi : Nat, lo ≤ hi ∧ hi ≤ n ∧ lv = .int .i64 lo ∧ hv = .int .i64 hi ∧ Hid (∀ (i : Nat) s, i < lo → l[i]? = some s → slt s x) ∧ Hid (∀ (i : Nat) s, hi ≤ i → l[i]? = some s → ¬ slt s x)) (fun lv hv _ => (intOf hv).toNat - (intOf lv).toNat)
  case atStart =>
    refine ⟨0, n, Nat.zero_le _, Nat.le_refl _, rfl, rfl, ?_, ?_⟩
    · intro i s hi; omega
    · intro i s hi hs
      have := (List.getElem?_eq_some_iff.1 hs).1
      rw [HL.out] at this; omega
  case round =>
    obtain ⟨lo, hi, h1, h2, rfl, rfl, P1, P2⟩ := hrel
    by_cases hlt : lo < hi
    · obtain ⟨d, hd⟩ : ∃ d, d = (hi - lo) / 2 := ⟨_, rfl⟩
      have hd1 : lo + d < hi := by omega
      have e1 : ((hi : Int) - (lo : Int)).tdiv 2 = (d : Int) := by
        rw [Int.tdiv_eq_ediv_of_nonneg (by omega)]
        omega
      obtain ⟨s, hs⟩ : ∃ s, l[lo + d]? = some s := ⟨_, List.getElem?_eq_getElem (by rw [HL.out]; omega)⟩
      obtain ⟨g, off, rfl, d1⟩ := HA.out (lo + d) (.string s) (by simp [strs, hs])
      have HSI : Hid (l[lo + d]? = some s) := hs
      clear hd hs
      by_cases hc : Op.bytesLess s.toList x.toList = true
      · have Q1 : Hid (∀ (i : Nat) t, i < lo + d + 1 → l[i]? = some t → slt t x) := fun i t hi ht => by
          by_cases e : i = lo + d
          · subst e; rw [HSI.out] at ht; cases ht; exact hc
          · exact slt_trans t s x (sorted_at HS.out (by omega) ht HSI.out) hc
        clear P1
        go_wp2
        go_round
        case rel => exact ⟨lo + d + 1, hi, by omega, h2, by go_num, rfl, Q1, P2⟩
        case measure => simp [intOf]; omega
      · have Q2 : Hid (∀ (i : Nat) t, lo + d ≤ i → l[i]? = some t → ¬ slt t x) := fun i t hi ht hc2 => by
          by_cases e : i = lo + d
          · subst e; rw [HSI.out] at ht; cases ht; exact hc hc2
          · exact hc (slt_trans s t x (sorted_at HS.out (by omega) HSI.out ht) hc2)
        clear P2
        go_wp2
        go_round
        case rel => exact ⟨lo, lo + d, by omega, by omega, rfl, by go_num, P1, Q2⟩
        case measure => simp [intOf]; omega
    · obtain rfl : lo = hi := by omega
      go_wp2
      go_ret
      exact ⟨⟨lo, rfl, by rw [HL.out]; exact h2, P1.out, P2.out⟩, rfl⟩

end Go.Proofs.Qxb6626223a.Find
