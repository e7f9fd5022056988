/-
  THE WALK of the law FnCyclesAreMutualReachGroups.
-/
import Derived.Test.Qxb6626223aCycles
import Derived.Test.Qxb6626223aMutual
import Derived.Test.Qxb6626223aToProj
import Derived.Test.Qxb6626223aBytes
namespace Go.Proofs.Qxb6626223a.OneW
open Go.RowKit
open Go.Proofs.Qxb6626223a.Graph Go.Proofs.Qxb6626223a.Canon
open Go.Proofs.Qxb6626223a.Frame Go.Proofs.Qxb6626223a.Order Go.Proofs.Qxb6626223a.Find Go.Proofs.Qxb6626223a.Agents Go.Proofs.Qxb6626223a.Same Go.Proofs.Qxb6626223a.Bytes Go.Proofs.Qxb6626223a.ToProj Go.Proofs.Qxb6626223a.CyclesW Go.Proofs.Qxb6626223a.MutualW
set_option linter.unusedVariables false
set_option linter.unusedSimpArgs false

theorem Held.kept0 {w w' : World} {ao : Option Addr} {cs : List Q4} (h : Held w ao cs) (hk : Kept nothing w w') : Held w' ao cs := Held.kept h hk fun _ _ => id

set_option maxHeartbeats 2000000 in
set_option maxRecDepth 100000 in
theorem walk (ao : Option Addr) (n cap : Nat) (cs : List Q4) (w : World) (hH : Held w ao cs) (hl : cs.length = n) (hm : n ≤ maxLen) :
    Calls Try.prog 3 #[.slice ao n cap] w fun e w' => e = .returned (.bool true) ∧ Kept nothing w w' := by
  have HH : Hid (Held w ao cs) := hH
  have HL : Hid (cs.length = n) := hl
  have BY := bytes1_any ao n cap cs w hH hl hm
  unfold maxLen at hm
  clear hH hl
  go_enter Try.func3, Try.ntmps3
  go_wp2_with fail
  refine BY.mono ?_
  rintro e w' ⟨⟨b, rfl, hb⟩, hw⟩
  obtain rfl := hw.symm
  clear BY hw
  cases b with
  | false =>
    clear hb
    go_wp2
    go_ret
    exact ⟨rfl, Kept.refl _ _⟩
  | true =>
    have HS : Hid (∀ c ∈ cs, Small c) := hb rfl
    clear hb
    by_cases hn : n ≤ 1024
    · go_wp2
      go_loopw [3, 4] (fun tv xv wr => ∃ t i q : Nat, t ≤ 1048576 ∧ i ≤ n ∧ tv = .int .i64 t ∧ xv = .int .i64 i ∧ wr = w.drewN q) (fun _ xv _ => n - (intOf xv).toNat)
      case atStart => exact ⟨n * 64, 0, 0, by omega, Nat.zero_le _, by go_num, by go_num, rfl⟩
      case round =>
        obtain ⟨t, i, q, ht, hi, rfl, rfl, rfl⟩ := hrel
        by_cases hlt : i < n
        · obtain ⟨c, hc⟩ : ∃ c, cs[i]? = some c := ⟨_, List.getElem?_eq_getElem (by rw [HL.out]; exact hlt)⟩
          obtain ⟨g, off, rfl, c0, c1, c2, c3⟩ := HH.out i c hc
          obtain ⟨s0, s1, s2, s3⟩ := HS.out c (List.mem_of_getElem? hc)
          obtain ⟨ce, cl, cn, ck⟩ := c
          simp only at c0 c1 c2 c3 s0 s1 s2 s3
          clear hc
          by_cases hbig : t + (ce.size + cl.size + cn.size + ck.size) ≤ 1048576
          · go_wp2
            go_quiet (fail)
            go_wp2
            go_roundw
            case rel => exact ⟨t + (ce.size + cl.size + cn.size + ck.size), i + 1, q + nq, hbig, by omega, by go_num, by go_num, by simp [World.drewN, Nat.add_assoc]⟩
            case measure => simp [intOf]; omega
          · go_wp2
            go_quiet (fail)
            go_wp2
            go_ret
            exact ⟨rfl, (Kept.refl _ _).drewN _⟩
        · obtain rfl : i = n := by omega
          have KQ : Hid (Kept nothing w (w.drewN q)) := (Kept.refl _ _).drewN _
          generalize w.drewN q = wq at KQ ⊢
          have TP := toProj_any ao i cap cs wq (Held.kept0 HH.out KQ.out) HL.out (by omega)
          go_wp2_with fail
          refine TP.mono ?_
          rintro e w1 ⟨g, rfl, h1, k1, -⟩
          clear TP
          have K1 : Hid (Kept nothing w w1) := KQ.out.trans k1
          have CY := cycles_any (some ⟨g, 0, Option.none⟩) i i cs w1 h1 HL.out (by omega) (fun c hc => ⟨(HS.out c hc).1, (HS.out c hc).2.1⟩)
          clear h1 k1 KQ
          go_wp2_with fail
          refine CY.mono ?_
          rintro e w2 ⟨v1, L1, rfl, g1, i1, k2, -, -⟩
          clear CY
          have K2 : Hid (Kept nothing w w2) := K1.out.trans k2
          have G1 : Hid (GroupsAt w2 v1 L1) := g1
          have I1 : Hid (IsGroups slt (Mutual (pairs cs)) L1) := i1
          have MU := mutual_any ao i cap cs w2 (Held.kept0 HH.out K2.out) HL.out (by omega)
          clear g1 i1 k2 K1
          go_wp2_with fail
          refine MU.mono ?_
          rintro e w3 ⟨v2, L2, rfl, g2, i2, k3, b1, b2⟩
          clear MU
          have eL : L1 = L2 := IsGroups.unique slt_irr slt_trans I1.out i2
          subst eL
          have K3 : Hid (Kept nothing w w3) := K2.out.trans k3
          have SA := same_any v1 v2 L1 w3 (G1.out.kept k3) g2 b1 b2
          clear g2 i2 k3 b1 b2 K2 G1 I1
          go_wp2_with fail
          refine SA.mono ?_
          rintro e w4 ⟨rfl, q4, hw4⟩
          have K4 : Hid (Kept nothing w w4) := by
            show Kept nothing w w4
            rw [hw4]
            exact K3.out.drewN _
          clear SA hw4 K3
          go_wp2
          go_ret
          exact ⟨rfl, K4.out⟩
    · go_wp2
      go_ret
      exact ⟨rfl, Kept.refl _ _⟩

end Go.Proofs.Qxb6626223a.OneW
