/-
  THE WALKS of the two bounds on length.
-/
import Derived.Test.Qxb6626223aAgents
namespace Go.Proofs.Qxb6626223a.Bytes
open Go.RowKit
open Go.Proofs.Qxb6626223a.Frame Go.Proofs.Qxb6626223a.Agents
set_option linter.unusedVariables false
set_option linter.unusedSimpArgs false

def Small (c : Q4) : Prop := c.e.size ≤ 1048576 ∧ c.l.size ≤ 1048576 ∧ c.n.size ≤ 1048576 ∧ c.k.size ≤ 1048576

/-- A bool; if true, each string is small. -/
def Says (cs : List Q4) (e : Ending) : Prop := ∃ b, e = .returned (.bool b) ∧ (b = true → ∀ c ∈ cs, Small c)
theorem says_no (cs : List Q4) : Says cs (.returned (.bool false)) := ⟨false, rfl, fun h => by cases h⟩

set_option maxHeartbeats 4000000 in
set_option maxRecDepth 100000 in
theorem bytes1_any (ao : Option Addr) (n cap : Nat) (cs : List Q4) (w : World) (hH : Held w ao cs) (hl : cs.length = n) (hn : n ≤ maxLen) :
    Calls Try.prog 5 #[.slice ao n cap] w fun e w' => Says cs e ∧ w' = w := by
  have HH : Hid (Held w ao cs) := hH
  have HL : Hid (cs.length = n) := hl
  unfold maxLen at hn
  clear hH hl
  by_cases h0 : n ≤ 1048576
  · go_enter Try.func5, Try.ntmps5
    go_wp2
    go_loop [3, 4] (fun zv iv => ∃ z i : Nat, z ≤ 1048576 ∧ i ≤ n ∧ zv = .int .i64 z ∧ iv = .int .i64 i ∧ Hid (∀ (j : Nat) c, j < i → cs[j]? = some c → Small c)) (fun _ iv => n - (intOf iv).toNat)
    case atStart => exact ⟨n, 0, h0, Nat.zero_le _, by go_num, by go_num, fun j c hj => by omega⟩
    case round =>
      obtain ⟨z, i, hz, hi, rfl, rfl, HS⟩ := hrel
      by_cases hlt : i < n
      · obtain ⟨c, hc⟩ : ∃ c, cs[i]? = some c := ⟨_, List.getElem?_eq_getElem (by rw [HL.out]; exact hlt)⟩
        obtain ⟨g, off, rfl, c0, c1, c2, c3⟩ := HH.out i c hc
        have ST : Hid (Small c → ∀ (j : Nat) c, j < i + 1 → cs[j]? = some c → Small c) := fun hs j d hj hd => by
          by_cases e : j = i
          · subst e; rw [hc] at hd; cases hd; exact hs
          · exact HS.out j d (by omega) hd
        obtain ⟨ce, cl, cn, ck⟩ := c
        simp only at c0 c1 c2 c3
        clear hc HS
        go_wp2
        all_goals try (go_ret; exact ⟨says_no _, rfl⟩)
        go_round
        case rel => exact ⟨z + ce.size + cl.size + cn.size + ck.size, i + 1, by omega, by omega, by go_num, by go_num, ST.out ⟨by show ce.size ≤ _; omega, by show cl.size ≤ _; omega, by show cn.size ≤ _; omega, by show ck.size ≤ _; omega⟩⟩
        case measure => simp [intOf]; omega
      · obtain rfl : i = n := by omega
        go_wp2
        go_ret
        exact ⟨⟨true, rfl, fun _ c hc => by
          obtain ⟨j, hj⟩ := List.getElem?_of_mem hc
          exact HS.out j c (by have := (List.getElem?_eq_some_iff.1 hj).1; rw [HL.out] at this; exact this) hj⟩, rfl⟩
  · go_enter Try.func5, Try.ntmps5
    go_wp2
    go_ret
    exact ⟨says_no _, rfl⟩

set_option maxHeartbeats 4000000 in
set_option maxRecDepth 100000 in
theorem bytes2_any (ao : Option Addr) (n cap : Nat) (cs : List Q4) (w : World) (hH : Held w ao cs) (hl : cs.length = n) (hn : n ≤ maxLen) :
    Calls Try.prog 10 #[.slice ao n cap] w fun e w' => Says cs e ∧ w' = w := by
  have HH : Hid (Held w ao cs) := hH
  have HL : Hid (cs.length = n) := hl
  unfold maxLen at hn
  clear hH hl
  by_cases h0 : n ≤ 1048576
  · go_enter Try.func10, Try.ntmps10
    go_wp2
    go_loop [3, 4] (fun zv iv => ∃ z i : Nat, z ≤ 1048576 ∧ i ≤ n ∧ zv = .int .i64 z ∧ iv = .int .i64 i ∧ Hid (∀ (j : Nat) c, j < i → cs[j]? = some c → Small c)) (fun _ iv => n - (intOf iv).toNat)
    case atStart => exact ⟨n, 0, h0, Nat.zero_le _, by go_num, by go_num, fun j c hj => by omega⟩
    case round =>
      obtain ⟨z, i, hz, hi, rfl, rfl, HS⟩ := hrel
      by_cases hlt : i < n
      · obtain ⟨c, hc⟩ : ∃ c, cs[i]? = some c := ⟨_, List.getElem?_eq_getElem (by rw [HL.out]; exact hlt)⟩
        obtain ⟨g, off, rfl, c0, c1, c2, c3⟩ := HH.out i c hc
        have ST : Hid (Small c → ∀ (j : Nat) c, j < i + 1 → cs[j]? = some c → Small c) := fun hs j d hj hd => by
          by_cases e : j = i
          · subst e; rw [hc] at hd; cases hd; exact hs
          · exact HS.out j d (by omega) hd
        obtain ⟨ce, cl, cn, ck⟩ := c
        simp only at c0 c1 c2 c3
        clear hc HS
        go_wp2
        all_goals try (go_ret; exact ⟨says_no _, rfl⟩)
        go_round
        case rel => exact ⟨z + ce.size + cl.size + cn.size + ck.size, i + 1, by omega, by omega, by go_num, by go_num, ST.out ⟨by show ce.size ≤ _; omega, by show cl.size ≤ _; omega, by show cn.size ≤ _; omega, by show ck.size ≤ _; omega⟩⟩
        case measure => simp [intOf]; omega
      · obtain rfl : i = n := by omega
        go_wp2
        go_ret
        exact ⟨⟨true, rfl, fun _ c hc => by
          obtain ⟨j, hj⟩ := List.getElem?_of_mem hc
          exact HS.out j c (by have := (List.getElem?_eq_some_iff.1 hj).1; rw [HL.out] at this; exact this) hj⟩, rfl⟩
  · go_enter Try.func10, Try.ntmps10
    go_wp2
    go_ret
    exact ⟨says_no _, rfl⟩

end Go.Proofs.Qxb6626223a.Bytes
