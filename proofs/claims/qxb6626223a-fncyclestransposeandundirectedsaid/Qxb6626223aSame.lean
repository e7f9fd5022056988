/-
  THE WALK of zzSameGroups, at two values that read alike.
-/
import Derived.Test.Qxb6626223aAgents
namespace Go.Proofs.Qxb6626223a.Same
open Go.RowKit
open Go.Proofs.Qxb6626223a.Frame Go.Proofs.Qxb6626223a.Find Go.Proofs.Qxb6626223a.Agents
set_option linter.unusedVariables false
set_option linter.unusedSimpArgs false

/-- Each value reads as its group. -/
def Inner (w : World) (vs : List Value) (L : List (List ByteArray)) : Prop := ∀ (i : Nat) u l, vs[i]? = some u → L[i]? = some l → ∃ ai ci, u = .slice ai l.length ci ∧ At w ai (strs l)

/-- v reads as the groups L. -/
def GroupsAt (w : World) (v : Value) (L : List (List ByteArray)) : Prop := ∃ ao cap vs, v = .slice ao L.length cap ∧ vs.length = L.length ∧ At w ao vs ∧ Inner w vs L

theorem At.kept0 {w w' : World} {ao : Option Addr} {xs : List Value} (h : At w ao xs) (hk : Kept nothing w w') : At w' ao xs := At.kept h hk fun _ _ => id
theorem Inner.kept {w w' : World} {vs : List Value} {L : List (List ByteArray)} (h : Inner w vs L) (hk : Kept nothing w w') : Inner w' vs L := fun i u l hu hl => by
  obtain ⟨ai, ci, e, ha⟩ := h i u l hu hl
  exact ⟨ai, ci, e, At.kept0 ha hk⟩
theorem GroupsAt.kept {w w' : World} {v : Value} {L : List (List ByteArray)} (h : GroupsAt w v L) (hk : Kept nothing w w') : GroupsAt w' v L := by
  obtain ⟨ao, cap, vs, e, hl, ha, hi⟩ := h
  exact ⟨ao, cap, vs, e, hl, At.kept0 ha hk, hi.kept hk⟩

set_option maxHeartbeats 4000000 in
set_option maxRecDepth 100000 in
theorem same_any (v1 v2 : Value) (L : List (List ByteArray)) (w : World) (h1 : GroupsAt w v1 L) (h2 : GroupsAt w v2 L) (hL : L.length ≤ 65536) (hL2 : ∀ l ∈ L, l.length ≤ 65536) :
    Calls Try.prog 8 #[v1, v2] w fun e w' => e = .returned (.bool true) ∧ ∃ q, w' = w.drewN q := by
  obtain ⟨ao, c1, vs, rfl, l1, a1, i1⟩ := h1
  obtain ⟨bo, c2, us, rfl, l2, a2, i2⟩ := h2
  have A1 : Hid (At w ao vs) := a1
  have A2 : Hid (At w bo us) := a2
  have I1 : Hid (Inner w vs L) := i1
  have I2 : Hid (Inner w us L) := i2
  obtain ⟨n, hn⟩ : ∃ n, L.length = n := ⟨_, rfl⟩
  have L0 : Hid (L.length = n) := hn
  have L1 : Hid (vs.length = n) := l1.trans hn
  have L2 : Hid (us.length = n) := l2.trans hn
  have LL : Hid (∀ l ∈ L, l.length ≤ 65536) := hL2
  rw [hn] at hL ⊢
  clear a1 a2 i1 i2 l1 l2 hn hL2
  go_enter Try.func8, Try.ntmps8
  go_wp2
  go_loopw [5, 6] (fun iv jv wr => ∃ (i q : Nat), i ≤ n ∧ iv = .int .i64 i ∧ wr = w.drewN q) (fun iv _ _ => n - (intOf iv).toNat)
  case atStart => exact ⟨0, 0, Nat.zero_le _, by go_num, rfl⟩
  case round =>
    obtain ⟨i, q, hi, rfl, rfl⟩ := hrel
    by_cases hlt : i < n
    · obtain ⟨u1, hu1⟩ : ∃ u, vs[i]? = some u := ⟨_, List.getElem?_eq_getElem (by rw [L1.out]; exact hlt)⟩
      obtain ⟨u2, hu2⟩ : ∃ u, us[i]? = some u := ⟨_, List.getElem?_eq_getElem (by rw [L2.out]; exact hlt)⟩
      obtain ⟨l, hl⟩ : ∃ l, L[i]? = some l := ⟨_, List.getElem?_eq_getElem (by rw [L0.out]; exact hlt)⟩
      obtain ⟨g1, o1, rfl, d1⟩ := A1.out i _ hu1
      obtain ⟨g2, o2, rfl, d2⟩ := A2.out i _ hu2
      obtain ⟨ai, ci, rfl, b1⟩ := I1.out i _ l hu1 hl
      obtain ⟨bi, cj, rfl, b2⟩ := I2.out i _ l hu2 hl
      have B1 : Hid (At w ai (strs l)) := b1
      have B2 : Hid (At w bi (strs l)) := b2
      have hlm := LL.out l (List.mem_of_getElem? hl)
      obtain ⟨m, hm⟩ : ∃ m, l.length = m := ⟨_, rfl⟩
      have HM : Hid (l.length = m) := hm
      rw [hm] at hlm d1 d2
      clear hu1 hu2 hl b1 b2 hm
      go_wp2
      go_quiet (fail)
      go_wp2
      go_loopw [6] (fun jv wr => ∃ (j q : Nat), j ≤ m ∧ jv = .int .i64 j ∧ wr = w.drewN q) (fun jv _ => m - (intOf jv).toNat)
      case atStart => exact ⟨0, q + nq, Nat.zero_le _, by go_num, by simp [World.drewN, Nat.add_assoc]⟩
      case round =>
        obtain ⟨j, q2, hj, rfl, rfl⟩ := hrel
        by_cases hlt2 : j < m
        · obtain ⟨s, hs⟩ : ∃ s, l[j]? = some s := ⟨_, List.getElem?_eq_getElem (by rw [HM.out]; exact hlt2)⟩
          obtain ⟨g3, o3, rfl, d3⟩ := B1.out j (.string s) (by simp [strs, hs])
          obtain ⟨g4, o4, rfl, d4⟩ := B2.out j (.string s) (by simp [strs, hs])
          clear hs
          go_wp2
          go_quiet (fail)
          go_wp2
          go_roundw
          case rel => exact ⟨j + 1, q2 + nq, by omega, by go_num, by simp [World.drewN, Nat.add_assoc]⟩
          case measure => simp [intOf]; omega
        · obtain rfl : j = m := by omega
          go_wp2
          go_roundw
          case rel => exact ⟨i + 1, _, by omega, by go_num, rfl⟩
          case measure => simp [intOf]; omega
    · obtain rfl : i = n := by omega
      go_wp2
      go_ret
      exact ⟨rfl, _, rfl⟩

end Go.Proofs.Qxb6626223a.Same
