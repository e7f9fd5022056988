/-
  LAW 'FLATTENS': the contracts of the smaller functions.
-/
import Derived.Test.Qxb6626320aScriptHeap
namespace Go.Proofs.Qxb6626320a.Flattens
open Go.RowKit
open Go.Proofs.Qxb6626320a.Frame Go.Proofs.Qxb6626320a.Parts Go.Proofs.Qxb6626320a.Text Go.Proofs.Qxb6626320a.Recs Go.Proofs.Qxb6626320a.Flat Go.Proofs.Qxb6626320a.Plain
open Go.Proofs.Qxb6626320a.Script (strs tot)
set_option linter.unusedVariables false
set_option linter.unusedSimpArgs false

/-! ### the bound -/
def Bounded (n m k : Nat) (ss : List ByteArray) (s : ByteArray) (e : Ending) : Prop :=
  ∃ b, e = .returned (.bool b) ∧ (b = true → n ≤ 1048576 ∧ m ≤ 1048576 ∧ k ≤ 1048576 ∧ s.size ≤ 1048576 ∧ ∀ s ∈ ss, s.size ≤ 1048576)

theorem Bounded.no {n m k : Nat} {ss : List ByteArray} {s : ByteArray} : Bounded n m k ss s (.returned (.bool false)) := ⟨false, rfl, fun h => by cases h⟩

set_option maxHeartbeats 1000000 in
set_option maxRecDepth 100000 in
theorem bytes1_any (a0 a1 a2 : Option Addr) (n c0 m c1 k c2 : Nat) (hl : Int) (ss : List ByteArray) (s : ByteArray) (w : World) (ha : At w a2 (strs ss)) (hk : ss.length = k) (hn : n ≤ maxLen) (hm : m ≤ maxLen) (hkm : k ≤ maxLen) (hsz : s.size ≤ maxLen) (hs : ∀ s ∈ ss, s.size ≤ maxLen) :
    Calls Try.prog 5 #[.slice a0 n c0, .slice a1 m c1, .slice a2 k c2, .int .i64 hl, .string s] w fun e w' => Bounded n m k ss s e ∧ w' = w := by
  unfold maxLen at hn hm hkm hsz
  have HA : Hid (At w a2 (strs ss)) := ha
  have HL : Hid (ss.length = k) := hk
  have HS : Hid (∀ s ∈ ss, s.size ≤ maxLen) := hs
  clear ha hk hs
  by_cases h1 : (1048576 : Int) < (n : Int)
  · go_enter Try.func5, Try.ntmps5
    go_wp2
    go_ret
    exact ⟨Bounded.no, rfl⟩
  by_cases h2 : (1048576 : Int) < (m : Int)
  · go_enter Try.func5, Try.ntmps5
    go_wp2
    go_ret
    exact ⟨Bounded.no, rfl⟩
  by_cases h3 : (1048576 : Int) < (n : Int) + (m : Int)
  · go_enter Try.func5, Try.ntmps5
    go_wp2
    go_ret
    exact ⟨Bounded.no, rfl⟩
  by_cases h4 : (1048576 : Int) < (k : Int)
  · go_enter Try.func5, Try.ntmps5
    go_wp2
    go_ret
    exact ⟨Bounded.no, rfl⟩
  by_cases h5 : (1048576 : Int) < (n : Int) + (m : Int) + (k : Int)
  · go_enter Try.func5, Try.ntmps5
    go_wp2
    go_ret
    exact ⟨Bounded.no, rfl⟩
  go_enter Try.func5, Try.ntmps5
  go_wp2
  go_loop [11, 12] (fun zv iv => ∃ z i : Nat, z ≤ 1048576 ∧ i ≤ k ∧ zv = .int .i64 z ∧ iv = .int .i64 i ∧ Hid (∀ s ∈ ss.take i, s.size ≤ 1048576)) (fun _ iv => k - (intOf iv).toNat)
  case atStart => exact ⟨n + m + k, 0, by omega, Nat.zero_le _, by go_num, rfl, (fun s hs => by simp at hs : ∀ s ∈ ss.take 0, s.size ≤ 1048576)⟩
  case round =>
    obtain ⟨z, i, hz, hi, rfl, rfl, HT⟩ := hrel
    by_cases hlt : i < k
    · obtain ⟨t, ht⟩ : ∃ s, ss[i]? = some s := ⟨_, List.getElem?_eq_getElem (by rw [HL.out]; exact hlt)⟩
      obtain ⟨g, off, rfl, d1⟩ := HA.out i (.string t) (by simp [strs, ht])
      have htz := HS.out t (List.mem_of_getElem? ht)
      unfold maxLen at htz
      have HSI : Hid (ss[i]? = some t) := ht
      clear ht
      by_cases h6 : (1048576 : Int) < (t.size : Int)
      · go_wp2
        go_ret
        exact ⟨Bounded.no, rfl⟩
      · by_cases h7 : (1048576 : Int) < (z : Int) + (t.size : Int)
        · go_wp2
          go_ret
          exact ⟨Bounded.no, rfl⟩
        · go_wp2
          go_round
          case rel =>
            refine ⟨z + t.size, i + 1, by omega, by omega, by go_num, by go_num, ?_⟩
            intro u hu
            rw [List.take_add_one, HSI.out, List.mem_append] at hu
            rcases hu with hu | hu
            · exact HT.out u hu
            · simp at hu; subst hu; omega
          case measure => simp [intOf]; omega
    · by_cases h8 : (1048576 : Int) < (s.size : Int)
      · go_wp2
        go_ret
        exact ⟨Bounded.no, rfl⟩
      · by_cases h9 : (1048576 : Int) < (z : Int) + (s.size : Int)
        · go_wp2
          go_ret
          exact ⟨Bounded.no, rfl⟩
        · go_wp2
          go_ret
          refine ⟨⟨_, rfl, fun _ => ⟨by omega, by omega, by omega, by omega, fun s hs => HT.out s ?_⟩⟩, rfl⟩
          rw [List.take_of_length_le (by rw [HL.out]; omega)]
          exact hs

/-! ### zzFlatOK, of places that rise and lie within -/
set_option maxHeartbeats 1000000 in
set_option maxRecDepth 100000 in
theorem flatOK_any (a0 aa : Option Addr) (n c0 m ca : Nat) (hs : List (Nat × ByteArray)) (w : World) (ha : At w aa (atCells hs)) (hm : hs.length = m) (hn : n ≤ 4194304) (hmm : m ≤ 4194304) (hok : OkFrom n 0 hs) :
    Calls Try.prog 15 #[.slice a0 n c0, .slice aa m ca] w fun e w' => e = .returned (.bool true) ∧ w' = w := by
  have HA : Hid (At w aa (atCells hs)) := ha
  have HM : Hid (hs.length = m) := hm
  have HOK : Hid (OkFrom n 0 (hs.drop 0)) := hok
  clear ha hm hok
  go_enter Try.func15, Try.ntmps15
  go_wp2
  go_loop [5, 6] (fun pv jv => ∃ (prev j : Nat), j ≤ m ∧ prev ≤ n ∧ pv = .int .i64 prev ∧ jv = .int .i64 j ∧ Hid (OkFrom n prev (hs.drop j))) (fun _ jv => m - (intOf jv).toNat)
  case atStart => exact ⟨0, 0, Nat.zero_le _, Nat.zero_le _, rfl, rfl, HOK⟩
  case round =>
    clear HOK
    obtain ⟨prev, j, hj, hprev, rfl, rfl, HO2⟩ := hrel
    by_cases hlt2 : j < m
    · obtain ⟨p, hp⟩ : ∃ p, hs[j]? = some p := ⟨_, List.getElem?_eq_getElem (by rw [HM.out]; exact hlt2)⟩
      have hdrop : hs.drop j = p :: hs.drop (j + 1) := by
        obtain ⟨h1, h2⟩ := List.getElem?_eq_some_iff.1 hp
        rw [List.drop_eq_getElem_cons h1, h2]
      have ho2 := HO2.out
      rw [hdrop] at ho2
      obtain ⟨y3, y4, y5⟩ := ho2
      have Y5 : Hid (OkFrom n p.1 (hs.drop (j + 1))) := y5
      obtain ⟨g1, f1, rfl, u1⟩ := HA.out j (.int .i64 (p.1 : Int)) (by simp [atCells, hp])
      have k1 : ¬ ((p.1 : Int) < (prev : Int)) := by omega
      have k2 : ¬ ((n : Int) < (p.1 : Int)) := by omega
      clear hp hdrop y5 HO2
      go_wp2
      go_round
      case rel => exact ⟨p.1, j + 1, by omega, by omega, by go_num, by go_num, Y5⟩
      case measure => simp [intOf]; omega
    · go_wp2
      go_ret
      exact ⟨rfl, rfl⟩

end Go.Proofs.Qxb6626320a.Flattens
