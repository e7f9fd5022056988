/-
  LAW 'FLATTENS': the walk.
-/
import Derived.Test.Qxb6626320aFlattensPlain
import Derived.Test.Qxb6626320aScriptWalk
namespace Go.Proofs.Qxb6626320a.Flattens
open Go.RowKit
open Go.Proofs.Qxb6626320a.Frame Go.Proofs.Qxb6626320a.Parts Go.Proofs.Qxb6626320a.Text Go.Proofs.Qxb6626320a.Recs Go.Proofs.Qxb6626320a.Flat Go.Proofs.Qxb6626320a.Plain
open Go.Proofs.Qxb6626320a.Script (strs tot tot_snoc tot_take uvLen_is)
set_option linter.unusedVariables false
set_option linter.unusedSimpArgs false

set_option maxRecDepth 1000000 in
set_option maxHeartbeats 4000000 in
theorem walk (a0 a1 a2 : Option Addr) (n c0 m1 c1 m2 c2 : Nat) (bl : List UInt8) (zs : List Int) (ss : List ByteArray) (hl : Int) (s : ByteArray) (w : World) (h0 : At w a0 (bc bl)) (h1 : At w a1 (ints zs)) (h2 : At w a2 (strs ss))
    (l0 : bl.length = n) (l1 : zs.length = m1) (l2 : ss.length = m2) (n0 : a0 = Option.none → n = 0) (n1 : a1 = Option.none → m1 = 0) (n2 : a2 = Option.none → m2 = 0) (x0 : n ≤ maxLen) (x1 : m1 ≤ maxLen) (x2 : m2 ≤ maxLen) (x3 : s.size ≤ maxLen) (hs : ∀ s ∈ ss, s.size ≤ maxLen) :
    Calls Try.prog 3 #[.slice a0 n c0, .slice a1 m1 c1, .slice a2 m2 c2, .int .i64 hl, .string s] w fun e w' => e = .returned (.bool true) ∧ Below w.heap.size w w' := by
  have HB := bytes1_any a0 a1 a2 n c0 m1 c1 m2 c2 hl ss s w h2 l2 x0 x1 x2 x3 hs
  have H0 : Hid (At w a0 (bc bl)) := h0
  have H1 : Hid (At w a1 (ints zs)) := h1
  have H2 : Hid (At w a2 (strs ss)) := h2
  have L0 : Hid (bl.length = n) := l0
  have L1 : Hid (zs.length = m1) := l1
  have L2 : Hid (ss.length = m2) := l2
  have N0 : Hid (a0 = Option.none → n = 0) := n0
  have N1 : Hid (a1 = Option.none → m1 = 0) := n1
  have N2 : Hid (a2 = Option.none → m2 = 0) := n2
  unfold maxLen at x0 x1 x2 x3
  clear h0 h1 h2 l0 l1 l2 n0 n1 n2 hs
  go_enter Try.func3, Try.ntmps3
  go_wp2_with fail
  refine HB.mono ?_
  rintro e w' ⟨⟨b, rfl, hb⟩, hw⟩
  obtain rfl := hw.symm
  clear HB
  cases b
  · go_wp2
    go_ret
    exact ⟨rfl, Below.refl _ _⟩
  obtain ⟨y0, y1, y2, y3, y4⟩ := hb rfl
  have HS : Hid (∀ s ∈ ss, s.size ≤ 1048576) := y4
  clear hb y4
  have g0 : ¬ (1048576 : Int) < (n : Int) := by omega
  have g3 : ¬ (1048576 : Int) < (s.size : Int) := by omega
  by_cases g1 : (131072 : Int) < (m1 : Int)
  · go_wp2
    go_ret
    exact ⟨rfl, Below.refl _ _⟩
  by_cases g2 : (65536 : Int) < (m2 : Int)
  · go_wp2
    go_ret
    exact ⟨rfl, Below.refl _ _⟩
  by_cases g4 : (1048576 : Int) < (n : Int) + (s.size : Int)
  · go_wp2
    go_ret
    exact ⟨rfl, Below.refl _ _⟩
  by_cases g5 : (1048576 : Int) < (n : Int) + (s.size : Int) + 8 * (m1 : Int)
  · go_wp2
    go_ret
    exact ⟨rfl, Below.refl _ _⟩
  go_wp2
  go_loop [11, 12] (fun zv iv => ∃ z i : Nat, z ≤ 1048576 ∧ i ≤ m2 ∧ zv = .int .i64 z ∧ iv = .int .i64 i ∧ Hid (z = n + s.size + 8 * m1 + tot (ss.take i))) (fun _ iv => m2 - (intOf iv).toNat)
  case atStart => exact ⟨n + s.size + 8 * m1, 0, by omega, Nat.zero_le _, by go_num, rfl, (rfl : n + s.size + 8 * m1 = n + s.size + 8 * m1 + tot (ss.take 0))⟩
  case round =>
    obtain ⟨z, i, hz, hi, rfl, rfl, HT⟩ := hrel
    by_cases hlt : i < m2
    · obtain ⟨t, ht⟩ : ∃ s, ss[i]? = some s := ⟨_, List.getElem?_eq_getElem (by rw [L2.out]; exact hlt)⟩
      obtain ⟨g, off, rfl, d1⟩ := H2.out i (.string t) (by simp [strs, ht])
      have hsz := HS.out t (List.mem_of_getElem? ht)
      have HT2 : Hid (z + (16 + t.size) = n + s.size + 8 * m1 + tot (ss.take (i + 1))) := by
        show _ = _
        rw [List.take_add_one, ht, HT.out, Option.toList_some, tot_snoc]
        omega
      clear ht HT
      by_cases h3 : (1048576 : Int) < (z : Int) + (16 + (t.size : Int))
      · go_wp2
        go_ret
        exact ⟨rfl, Below.refl _ _⟩
      · go_wp2
        go_round
        case rel => exact ⟨z + (16 + t.size), i + 1, by omega, by omega, by go_num, by go_num, HT2⟩
        case measure => simp [intOf]; omega
    · have HTOT : Hid (n + s.size + 8 * m1 + tot ss ≤ 1048576) := by
        have := HT.out
        rw [List.take_of_length_le (by rw [L2.out]; omega)] at this
        show _ ≤ _
        omega
      clear HT hz hi
      by_cases hmm : m1 = m2
      · subst hmm
        clear g1 x1 x2 y1 y2
        go_wp2
        go_loop [13, 14, 15] (fun sv pv iv => ∃ (sm prev i : Nat) (hp : List (Nat × ByteArray)), i ≤ m1 ∧ sm ≤ 1048576 ∧ prev ≤ n ∧ sv = .int .i64 sm ∧ pv = .int .i64 prev ∧ iv = .int .i64 i ∧ Hid (Pre zs ss i sm prev hp)) (fun _ _ iv => m1 - (intOf iv).toNat)
        case atStart => exact ⟨0, 0, 0, [], Nat.zero_le _, Nat.zero_le _, Nat.zero_le _, rfl, rfl, rfl, Pre.start zs ss⟩
        case round =>
          obtain ⟨sm, prev, j, hp, hj, hsm, hprev, rfl, rfl, rfl, HP⟩ := hrel
          by_cases hlt2 : j < m1
          · obtain ⟨x, hx⟩ : ∃ x, zs[j]? = some x := ⟨_, List.getElem?_eq_getElem (by rw [L1.out]; exact hlt2)⟩
            obtain ⟨t, ht⟩ : ∃ s, ss[j]? = some s := ⟨_, List.getElem?_eq_getElem (by rw [L2.out]; exact hlt2)⟩
            obtain ⟨gz, offz, rfl, d1⟩ := H1.out j (.int .i64 x) (by simp [ints, hx])
            obtain ⟨gs, offs, rfl, d2⟩ := H2.out j (.string t) (by simp [strs, ht])
            by_cases q1 : x < (prev : Int)
            · clear hx ht
              go_wp2
              go_ret
              exact ⟨rfl, Below.refl _ _⟩
            by_cases q2 : (n : Int) < x
            · clear hx ht
              go_wp2
              go_ret
              exact ⟨rfl, Below.refl _ _⟩
            obtain ⟨xn, rfl⟩ := Int.eq_ofNat_of_zero_le (show 0 ≤ x by omega)
            have hst := HP.out.step hx ht (by omega)
            have hsm2 : sm + t.size ≤ 1048576 := by have := hst.small; have := HTOT.out; omega
            have HP2 : Hid (Pre zs ss (j + 1) (sm + t.size) xn (hp ++ [(xn, t)])) := hst
            clear hx ht hst HP
            go_wp2
            go_round
            case rel => exact ⟨sm + t.size, xn, j + 1, hp ++ [(xn, t)], by omega, hsm2, by omega, by go_num, rfl, by go_num, HP2⟩
            case measure => simp [intOf]; omega
          · obtain rfl : j = m1 := by omega
            by_cases heq : hl = (sm : Int)
            · subst heq
              have hal := HP.out
              rw [← L2.out] at hal
              obtain ⟨e1, e2⟩ := hal.all (by rw [L1.out, L2.out])
              have hok : OkFrom n 0 hp := ok_mono hprev HP.out.ok
              have hsum := HP.out.sum
              have hlen := HP.out.len
              have HAA : Hid (At w a1 (atCells hp)) := by show At _ _ _; rw [e1]; exact H1.out
              have HAZ : Hid (At w a2 (sCells hp)) := by show At _ _ _; rw [e2]; exact H2.out
              have HOK : Hid (OkFrom n 0 hp) := hok
              have HSUM : Hid (sizes hp = sm) := hsum
              have HM : Hid (hp.length = j) := hlen
              have hsm3 : n + s.size + 8 * j + sm ≤ 1048576 := by have := HP.out.small; have := HTOT.out; omega
              have hku10 := Lib.uvarint_length64 (x := s.size) (by omega)
              obtain ⟨ku, hku⟩ : ∃ ku, (Lib.uvarint s.size).length = ku := ⟨_, rfl⟩
              rw [hku] at hku10
              have HKU : Hid ((Lib.uvarint s.size).length = ku) := hku
              have HFLEN : Hid ((flat bl hp).length = n + sm) := by
                have := flatFrom_len bl hp 0 (by rw [L0.out]; exact hok)
                rw [L0.out, hsum] at this
                show List.length (flatFrom bl 0 hp) = _
                omega
              have HOK2 := text_ok (bl := bl) s (by rw [L0.out]; exact hok)
              have HFL2 := text_flat (bl := bl) s (by rw [L0.out]; exact hok)
              have HSZ2 := tH_sizes bl s hp
              have HTB := tB_len s
              rw [hku] at HTB
              have HOK2 : Hid (OkFrom (bl ++ tB s).length 0 (hp ++ tH bl s)) := HOK2
              have HFL2 : Hid (flat (bl ++ tB s) (hp ++ tH bl s) = flat bl hp ++ frame s.data.toList) := HFL2
              have HSZ2 : Hid (sizes (hp ++ tH bl s) ≤ sizes hp + s.size) := HSZ2
              have HTB : Hid ((tB s).length = ku + if s.size < 4096 then s.size else 0) := HTB
              clear hok hsum hlen hku e1 e2 hal HP H1 H2 HTOT L1 L2 hlt hlt2 hprev hsm hj g4 g5 g2
              go_wp2_with fail
              refine (cloneB_any a0 n c0 (bc bl) w H0.out (by rw [bc_len]; exact L0.out) N0.out (fun x hx => by obtain ⟨t, _, rfl⟩ := List.mem_map.1 hx; exact ⟨_, rfl⟩) (by omega)).mono ?_
              rintro e w1 ⟨v1, rfl, bel1, own1, new1⟩
              obtain ⟨b0, d0, rfl⟩ := own_slice_n own1
              obtain ⟨p1, p1', at1, nil1⟩ := own_at2 own1
              have B1 : Hid _ := bel1
              have A1 : Hid (At w1 b0 (bc bl)) := at1
              have Z1 : Hid _ := nil1
              clear bel1 own1 new1 at1 nil1
              go_wp2_with fail
              refine (cloneI_any a1 j c1 (atCells hp) w1 (HAA.out.below B1.out) (by simp [atCells, HM.out]) N1.out (fun x hx => by obtain ⟨t, _, rfl⟩ := List.mem_map.1 hx; exact ⟨_, rfl⟩) (by omega)).mono ?_
              rintro e w2 ⟨v2, rfl, bel2, own2, new2⟩
              obtain ⟨b1, d1, rfl⟩ := own_slice_n own2
              obtain ⟨p2, p2', at2, nil2⟩ := own_at2 own2
              have B2 : Hid _ := bel2
              have A2 : Hid (At w2 b1 (atCells hp)) := at2
              have Z2 : Hid _ := nil2
              clear bel2 own2 new2 at2 nil2
              go_wp2_with fail
              refine (cloneS_any a2 j c2 (sCells hp) w2 (HAZ.out.below (below_trans B1.out B2.out)) (by simp [sCells, HM.out]) N2.out (fun x hx => by obtain ⟨t, _, rfl⟩ := List.mem_map.1 hx; exact ⟨_, rfl⟩) (by omega)).mono ?_
              rintro e w3 ⟨v3, rfl, bel3, own3, new3⟩
              obtain ⟨b2, d2, rfl⟩ := own_slice_n own3
              obtain ⟨p3, p3', at3, nil3⟩ := own_at2 own3
              have B3 : Hid _ := bel3
              have A3 : Hid (At w3 b2 (sCells hp)) := at3
              have Z3 : Hid _ := nil3
              clear bel3 own3 new3 at3 nil3 HAA HAZ H0 N0 N1 N2
              go_wp2_with fail
              refine (flat_any b0 b1 b2 n d0 j d1 d2 bl hp w3 (A1.out.below (below_trans B2.out B3.out)) (A2.out.below B3.out) A3.out L0.out HM.out p1 p1' Z1.out HOK.out (by rw [HSUM.out]; omega) (by omega)).mono ?_
              rintro e w4 ⟨vf, rfl, out4⟩
              have own4 := out4.own
              unfold OwnB at own4
              rw [HFLEN.out] at own4
              obtain ⟨af, cf, rfl⟩ := own_slice_n own4
              obtain ⟨-, -, at4, nil4⟩ := own_at2 own4
              have B4 : Hid _ := out4.below
              have A4 : Hid (At w4 af (bc (flat bl hp))) := at4
              have Z4 : Hid _ := nil4
              clear out4 own4 at4 nil4
              go_wp2_with fail
              refine (cloneB_any af (n + sm) cf (bc (flat bl hp)) w4 A4.out (by rw [bc_len]; exact HFLEN.out) Z4.out (fun x hx => by obtain ⟨t, _, rfl⟩ := List.mem_map.1 hx; exact ⟨_, rfl⟩) (by omega)).mono ?_
              rintro e w5 ⟨v5, rfl, bel5, own5, new5⟩
              have O5 : OwnB w5 v5 (flat bl hp) := by unfold OwnB; rw [HFLEN.out]; exact own5
              clear own5
              go_wp2_with fail
              refine (appendString_any v5 s (flat bl hp) w5 O5 (by rw [HFLEN.out]; omega) (by omega)).mono ?_
              rintro e w6 ⟨vw, rfl, ownw, kw, -⟩
              have hlw : (flat bl hp ++ frame s.data.toList).length = n + sm + ku + s.size := by
                rw [frame_is, List.length_append, List.length_append, data_len, HFLEN.out, HKU.out]
                omega
              generalize hel : flat bl hp ++ frame s.data.toList = el at ownw hlw HFL2
              unfold OwnB at ownw
              rw [hlw] at ownw
              obtain ⟨aw, cw, rfl⟩ := own_slice_n ownw
              obtain ⟨-, -, atw, -⟩ := own_at2 ownw
              have B46 : Below w4.heap.size w4 w6 := bel5.trans (kw.below bel5.size fun k hr => new5 k hr)
              have W6 : Hid (Below w.heap.size w w6 ∧ At w6 b0 (bc bl) ∧ At w6 b1 (atCells hp) ∧ At w6 b2 (sCells hp) ∧ At w6 aw (bc el)) :=
                ⟨below_trans B1.out (below_trans B2.out (below_trans B3.out (below_trans B4.out B46))), A1.out.below (below_trans B2.out (below_trans B3.out (below_trans B4.out B46))), A2.out.below (below_trans B3.out (below_trans B4.out B46)), A3.out.below (below_trans B4.out B46), atw⟩
              have HEL : Hid (el.length = n + sm + ku + s.size) := hlw
              clear O5 bel5 new5 hlw hel ownw kw atw B46 A1 A2 A3 A4 B1 B2 B3 B4 Z4
              go_wp2_with fail
              refine (cloneB_any b0 n d0 (bc bl) w6 W6.out.2.1 (by rw [bc_len]; exact L0.out) Z1.out (fun x hx => by obtain ⟨t, _, rfl⟩ := List.mem_map.1 hx; exact ⟨_, rfl⟩) (by omega)).mono ?_
              rintro e w7 ⟨v7, rfl, bel7, own7, new7⟩
              have B7 : Hid _ := bel7
              have O7 : Hid (OwnB w7 v7 bl) := by show OwnB _ _ _; unfold OwnB; rw [L0.out]; exact own7
              have NW7 : Hid _ := new7
              clear bel7 own7 new7
              go_wp2_with fail
              refine (cloneI_any b1 j d1 (atCells hp) w7 (W6.out.2.2.1.below B7.out) (by simp [atCells, HM.out]) Z2.out (fun x hx => by obtain ⟨t, _, rfl⟩ := List.mem_map.1 hx; exact ⟨_, rfl⟩) (by omega)).mono ?_
              rintro e w8 ⟨v8, rfl, bel8, own8, -⟩
              obtain ⟨f1, q1, rfl⟩ := own_slice_n own8
              have B8 : Hid _ := bel8
              have A8 : Hid (At w8 f1 (atCells hp)) := (own_at2 own8).2.2.1
              clear bel8 own8
              go_wp2_with fail
              refine (cloneS_any b2 j d2 (sCells hp) w8 (W6.out.2.2.2.1.below (below_trans B7.out B8.out)) (by simp [sCells, HM.out]) Z3.out (fun x hx => by obtain ⟨t, _, rfl⟩ := List.mem_map.1 hx; exact ⟨_, rfl⟩) (by omega)).mono ?_
              rintro e w9 ⟨v9, rfl, bel9, own9, -⟩
              obtain ⟨f2, q2, rfl⟩ := own_slice_n own9
              have B9 : Hid _ := bel9
              have A9 : Hid (At w9 f2 (sCells hp)) := (own_at2 own9).2.2.1
              clear bel9 own9
              go_wp2_with fail
              refine (newRec_any v7 f1 f2 j q1 q2 bl hp sm w9 (ownsRow_keep O7.out (Kept.of_below (S := nothing) (below_trans B8.out B9.out)) fun _ _ h => h) (A8.out.below B9.out) A9.out HM.out (by omega)).mono ?_
              rintro e w10 ⟨rfl, vh, made⟩
              have hsz9 : w6.heap.size ≤ w9.heap.size := (below_trans B7.out (below_trans B8.out B9.out)).size
              have B610 : Below w6.heap.size w6 w10 := below_trans B7.out (below_trans B8.out (below_trans B9.out made.below))
              have RC : Hid (Rec w10 w9.heap.size v7 vh bl hp sm) := made.rcd
              have BK : Hid (∀ w11, Kept (recS w9.heap.size v7 vh) w10 w11 → Below w6.heap.size w6 w11) := fun w11 kt => B610.trans (kt.below B610.size (by
                rintro k (e | e | e)
                · omega
                · exact NW7.out k e
                · exact Nat.le_trans hsz9 (made.new k e)))
              clear made hsz9 B610 O7 NW7 B7 B8 B9 A8 A9
              generalize w9.heap.size = rb at *
              go_wp2_with fail
              refine (text_any rb s v7 vh bl hp sm w10 RC.out (by omega) (by rw [L0.out]; omega) (by rw [HM.out]; omega) (by omega)).mono ?_
              rintro e w11 ⟨rfl, vb', vh', rec11, k11⟩
              have B11 := BK.out w11 k11
              clear BK k11 RC
              have PB : Hid (∀ (i : Nat) x, bl[i]? = some x → (bl ++ tB s)[i]? = some x) := fun i x hx => by rw [List.getElem?_append_left (List.getElem?_eq_some_iff.1 hx).1]; exact hx
              have PH : Hid (∀ (i : Nat) p, hp[i]? = some p → (hp ++ tH bl s)[i]? = some p) := fun i x hx => by rw [List.getElem?_append_left (List.getElem?_eq_some_iff.1 hx).1]; exact hx
              have PL : Hid (¬ s.size < 4096 → (hp ++ tH bl s)[j]? = some (n + ku, s)) := fun h => by
                unfold tH
                rw [if_neg h, List.getElem?_append_right (by rw [HM.out]; exact Nat.le_refl _), HM.out, Nat.sub_self, List.length_append, L0.out, HKU.out]
                rfl
              have PM : Hid ((hp ++ tH bl s).length = j + if s.size < 4096 then 0 else 1) := by
                show List.length _ = _
                unfold tH
                rw [List.length_append, HM.out]
                by_cases h : s.size < 4096
                · rw [if_pos h, if_pos h]; rfl
                · rw [if_neg h, if_neg h]; rfl
              have PT : Hid (sm + tL s = sm + if s.size < 4096 then 0 else s.size) := rfl
              have EB : Hid ((bl ++ tB s).length = n + ku + if s.size < 4096 then s.size else 0) := by
                show List.length _ = _
                rw [List.length_append, L0.out, HTB.out]
                omega
              have HSB : Hid ((bl ++ tB s).length + sizes (hp ++ tH bl s) ≤ 4194304 ∧ (hp ++ tH bl s).length ≤ 65537) := by
                have e1 := EB.out
                have e2 := HSZ2.out
                have e3 := PM.out
                rw [HSUM.out] at e2
                refine ⟨?_, ?_⟩
                · split at e1 <;> omega
                · split at e3 <;> omega
              clear HSZ2 HTB HFLEN HSUM
              generalize bl ++ tB s = bl2 at *
              generalize hp ++ tH bl s = hs2 at *
              generalize sm + tL s = lb at *
              obtain ⟨nb, hnb⟩ : ∃ nb, bl2.length = nb := ⟨_, rfl⟩
              obtain ⟨mb, hmb⟩ : ∃ mb, hs2.length = mb := ⟨_, rfl⟩
              have HNB : Hid (bl2.length = nb) := hnb
              have HMB : Hid (hs2.length = mb) := hmb
              have PARTS := parts_any rb vb' vh' bl2 hs2 lb w11 rec11 (by have := HSB.out.2; omega)
              rw [hmb] at PARTS
              have ownb := rec11.ownb
              unfold OwnB at ownb
              rw [hnb] at ownb
              obtain ⟨x0, cx, rfl⟩ := own_slice_n ownb
              obtain ⟨px, px', atx, nilx⟩ := own_at2 ownb
              have NX : Hid (x0 = Option.none → nb = 0) := nilx
              have AX : Hid (At w11 x0 (bc bl2)) := atx
              clear ownb atx nilx hnb hmb rec11
              go_wp2_with fail
              refine PARTS.mono ?_
              rintro e w12 ⟨rfl, bel, o3, o9⟩
              have B12 := below_trans B11 bel
              have CX : Hid (At w12 x0 (bc bl2)) := AX.out.below bel
              have CT : Hid (At w12 (some ⟨w11.heap.size, 0, Option.none⟩) (atCells hs2)) := (own_at2 o3).2.2.1
              have CS : Hid (At w12 (some ⟨w11.heap.size + 1, 0, Option.none⟩) (sCells hs2)) := (own_at2 o9).2.2.1
              have C0 : Hid (At w12 b0 (bc bl)) := W6.out.2.1.below B12
              have C1 : Hid (At w12 b1 (atCells hp)) := W6.out.2.2.1.below B12
              have C2 : Hid (At w12 b2 (sCells hp)) := W6.out.2.2.2.1.below B12
              have CW : Hid (At w12 aw (bc el)) := W6.out.2.2.2.2.below B12
              have BEL : Hid (Below w.heap.size w w12) := below_trans W6.out.1 B12
              clear PARTS bel o3 o9 AX W6 B12 B11
              generalize w11.heap.size = xa at *
              by_cases hlong : s.size < 4096
              · have c12 : ¬ (4096 : Int) ≤ (s.size : Int) := by omega
                have z1 : nb = n + ku + s.size := by have := EB.out; rw [HNB.out, if_pos hlong] at this; exact this
                have z2 : mb = j := by have := PM.out; rw [HMB.out, if_pos hlong] at this; exact this
                have z3 : lb = sm := by have := PT.out; rw [if_pos hlong] at this; exact this
                subst z1
                subst z2
                subst z3
                clear EB PM PT PL
                go_wp2_with (go_at_call 14; refine (uvLen_is s.size ku (by omega) HKU.out _).mono ?_; rintro e w5 ⟨rfl, hw⟩; obtain rfl := hw.symm)
                go_loopw [28] (fun iv wv => ∃ (i q : Nat), i ≤ n ∧ iv = .int .i64 i ∧ wv = w12.drewN q) (fun iv _ => n - (intOf iv).toNat)
                case atStart => exact ⟨0, 0, Nat.zero_le _, rfl, rfl⟩
                case round =>
                  obtain ⟨i, q, hi, rfl, rfl⟩ := hrel
                  by_cases hlt : i < n
                  · obtain ⟨x, hx⟩ : ∃ x, bl[i]? = some x := ⟨_, List.getElem?_eq_getElem (by rw [L0.out]; exact hlt)⟩
                    obtain ⟨g1, t1, rfl, u1⟩ := C0.out i (.int .u8 (x.toNat : Int)) (bc_at hx)
                    obtain ⟨g2, t2, rfl, u2⟩ := CX.out i (.int .u8 (x.toNat : Int)) (bc_at (PB.out i x hx))
                    have k3 : (i : Int) < (n : Int) := by omega
                    clear hx
                    go_wp2
                    go_quiet (fail)
                    go_wp2
                    go_roundw
                    case rel => exact ⟨i + 1, q + nq, by omega, by go_num, by simp [World.drewN, Nat.add_assoc]⟩
                    case measure => simp [intOf]; omega
                  · clear hi C0 PB
                    go_wp2
                    go_loopw [29] (fun iv wv => ∃ (i q : Nat), i ≤ mb ∧ iv = .int .i64 i ∧ wv = w12.drewN q) (fun iv _ => mb - (intOf iv).toNat)
                    case atStart => exact ⟨0, q, Nat.zero_le _, rfl, rfl⟩
                    case round =>
                      clear hlt
                      obtain ⟨i, q, hi, rfl, rfl⟩ := hrel
                      by_cases hlt : i < mb
                      · obtain ⟨p, hx⟩ : ∃ x, hp[i]? = some x := ⟨_, List.getElem?_eq_getElem (by rw [HM.out]; exact hlt)⟩
                        have hx2 := PH.out i p hx
                        obtain ⟨g1, t1, rfl, u1⟩ := C1.out i (.int .i64 (p.1 : Int)) (by simp [atCells, hx])
                        obtain ⟨g2, t2, rfl, u2⟩ := C2.out i (.string p.2) (by simp [sCells, hx])
                        obtain ⟨g3, t3, he3, u3⟩ := CT.out i (.int .i64 (p.1 : Int)) (by simp [atCells, hx2])
                        cases he3
                        obtain ⟨g4, t4, he4, u4⟩ := CS.out i (.string p.2) (by simp [sCells, hx2])
                        cases he4
                        rw [Nat.zero_add] at u3 u4
                        have k3 : (i : Int) < (mb : Int) := by omega
                        clear hx hx2
                        go_wp2
                        go_quiet (fail)
                        go_wp2
                        go_roundw
                        case rel => exact ⟨i + 1, q + nq, by omega, by go_num, by simp [World.drewN, Nat.add_assoc]⟩
                        case measure => simp [intOf]; omega
                      · clear hi C1 C2 PH
                        go_wp2_with fail
                        refine (flatOK_any x0 (some ⟨xa, 0, Option.none⟩) (n + ku + s.size) cx mb mb hs2 (w12.drewN q) (Script.At.drewN CT.out q) HMB.out (by omega) (by omega) (by have := HOK2.out; rw [HNB.out] at this; exact this)).mono ?_
                        rintro e w13 ⟨rfl, hw13⟩
                        obtain rfl := hw13.symm
                        clear hw13
                        go_wp2_with fail
                        refine (flat_any x0 (some ⟨xa, 0, Option.none⟩) (some ⟨xa + 1, 0, Option.none⟩) (n + ku + s.size) cx mb mb mb bl2 hs2 (w12.drewN q) (Script.At.drewN CX.out q) (Script.At.drewN CT.out q) (Script.At.drewN CS.out q) HNB.out HMB.out px px' NX.out (by have := HOK2.out; rw [HNB.out] at this; exact this) (by have := HSB.out.1; rw [HNB.out] at this; exact this) (by omega)).mono ?_
                        rintro e w14 ⟨vf, rfl, hout⟩
                        have own14 := hout.own
                        rw [HFL2.out] at own14
                        unfold OwnB at own14
                        rw [HEL.out] at own14
                        obtain ⟨af, cf, rfl⟩ := own_slice_n own14
                        obtain ⟨-, -, hatF, -⟩ := own_at2 own14
                        have FF : Hid (At w14 af (bc el)) := hatF
                        have FW : Hid (At w14 aw (bc el)) := At.below (Script.At.drewN CW.out q) hout.below
                        have FB : Hid (Below w.heap.size w w14) := below_trans BEL.out (Script.below_dr hout.below)
                        clear hout own14 hatF CX CT CS CW BEL
                        go_wp2_with (go_at_call 16; refine (eq_true af aw _ cf cw el w14 FF.out FW.out HEL.out (by omega)).mono ?_; rintro e w15 ⟨rfl, q5, hw5⟩; subst hw5)
                        go_ret
                        exact ⟨rfl, ⟨FB.out.os, FB.out.tape, FB.out.output, FB.out.size, FB.out.block⟩⟩
              · have c12 : (4096 : Int) ≤ (s.size : Int) := by omega
                have z1 : nb = n + ku := by have := EB.out; rw [HNB.out, if_neg hlong] at this; exact this
                have z2 : mb = j + 1 := by have := PM.out; rw [HMB.out, if_neg hlong] at this; exact this
                have z3 : lb = sm + s.size := by have := PT.out; rw [if_neg hlong] at this; exact this
                subst z1
                subst z2
                subst z3
                have HLAST : Hid (hs2[j]? = some (n + ku, s)) := PL.out hlong
                clear EB PM PT PL
                go_wp2_with (go_at_call 14; refine (uvLen_is s.size ku (by omega) HKU.out _).mono ?_; rintro e w5 ⟨rfl, hw⟩; obtain rfl := hw.symm)
                go_loopw [28] (fun iv wv => ∃ (i q : Nat), i ≤ n ∧ iv = .int .i64 i ∧ wv = w12.drewN q) (fun iv _ => n - (intOf iv).toNat)
                case atStart => exact ⟨0, 0, Nat.zero_le _, rfl, rfl⟩
                case round =>
                  obtain ⟨i, q, hi, rfl, rfl⟩ := hrel
                  by_cases hlt : i < n
                  · obtain ⟨x, hx⟩ : ∃ x, bl[i]? = some x := ⟨_, List.getElem?_eq_getElem (by rw [L0.out]; exact hlt)⟩
                    obtain ⟨g1, t1, rfl, u1⟩ := C0.out i (.int .u8 (x.toNat : Int)) (bc_at hx)
                    obtain ⟨g2, t2, rfl, u2⟩ := CX.out i (.int .u8 (x.toNat : Int)) (bc_at (PB.out i x hx))
                    have k3 : (i : Int) < (n : Int) := by omega
                    clear hx
                    go_wp2
                    go_quiet (fail)
                    go_wp2
                    go_roundw
                    case rel => exact ⟨i + 1, q + nq, by omega, by go_num, by simp [World.drewN, Nat.add_assoc]⟩
                    case measure => simp [intOf]; omega
                  · clear hi C0 PB
                    go_wp2
                    go_loopw [29] (fun iv wv => ∃ (i q : Nat), i ≤ j ∧ iv = .int .i64 i ∧ wv = w12.drewN q) (fun iv _ => j - (intOf iv).toNat)
                    case atStart => exact ⟨0, q, Nat.zero_le _, rfl, rfl⟩
                    case round =>
                      clear hlt
                      obtain ⟨i, q, hi, rfl, rfl⟩ := hrel
                      by_cases hlt : i < j
                      · obtain ⟨p, hx⟩ : ∃ x, hp[i]? = some x := ⟨_, List.getElem?_eq_getElem (by rw [HM.out]; exact hlt)⟩
                        have hx2 := PH.out i p hx
                        obtain ⟨g1, t1, rfl, u1⟩ := C1.out i (.int .i64 (p.1 : Int)) (by simp [atCells, hx])
                        obtain ⟨g2, t2, rfl, u2⟩ := C2.out i (.string p.2) (by simp [sCells, hx])
                        obtain ⟨g3, t3, he3, u3⟩ := CT.out i (.int .i64 (p.1 : Int)) (by simp [atCells, hx2])
                        cases he3
                        obtain ⟨g4, t4, he4, u4⟩ := CS.out i (.string p.2) (by simp [sCells, hx2])
                        cases he4
                        rw [Nat.zero_add] at u3 u4
                        have k3 : (i : Int) < (j : Int) := by omega
                        clear hx hx2
                        go_wp2
                        go_quiet (fail)
                        go_wp2
                        go_roundw
                        case rel => exact ⟨i + 1, q + nq, by omega, by go_num, by simp [World.drewN, Nat.add_assoc]⟩
                        case measure => simp [intOf]; omega
                      · clear hi C1 C2 PH
                        obtain ⟨g3, t3, he3, u3⟩ := CT.out j (.int .i64 ((n + ku : Nat) : Int)) (by simp [atCells, HLAST.out])
                        cases he3
                        obtain ⟨g4, t4, he4, u4⟩ := CS.out j (.string s) (by simp [sCells, HLAST.out])
                        cases he4
                        rw [Nat.zero_add] at u3 u4
                        go_wp2_with fail
                        refine (flatOK_any x0 (some ⟨xa, 0, Option.none⟩) (n + ku) cx (j + 1) (j + 1) hs2 (w12.drewN q) (Script.At.drewN CT.out q) HMB.out (by omega) (by omega) (by have := HOK2.out; rw [HNB.out] at this; exact this)).mono ?_
                        rintro e w13 ⟨rfl, hw13⟩
                        obtain rfl := hw13.symm
                        clear hw13
                        go_wp2_with fail
                        refine (flat_any x0 (some ⟨xa, 0, Option.none⟩) (some ⟨xa + 1, 0, Option.none⟩) (n + ku) cx (j + 1) (j + 1) (j + 1) bl2 hs2 (w12.drewN q) (Script.At.drewN CX.out q) (Script.At.drewN CT.out q) (Script.At.drewN CS.out q) HNB.out HMB.out px px' NX.out (by have := HOK2.out; rw [HNB.out] at this; exact this) (by have := HSB.out.1; rw [HNB.out] at this; exact this) (by omega)).mono ?_
                        rintro e w14 ⟨vf, rfl, hout⟩
                        have own14 := hout.own
                        rw [HFL2.out] at own14
                        unfold OwnB at own14
                        rw [HEL.out] at own14
                        obtain ⟨af, cf, rfl⟩ := own_slice_n own14
                        obtain ⟨-, -, hatF, -⟩ := own_at2 own14
                        have FF : Hid (At w14 af (bc el)) := hatF
                        have FW : Hid (At w14 aw (bc el)) := At.below (Script.At.drewN CW.out q) hout.below
                        have FB : Hid (Below w.heap.size w w14) := below_trans BEL.out (Script.below_dr hout.below)
                        clear hout own14 hatF CX CT CS CW BEL
                        go_wp2_with (go_at_call 16; refine (eq_true af aw _ cf cw el w14 FF.out FW.out HEL.out (by omega)).mono ?_; rintro e w15 ⟨rfl, q5, hw5⟩; subst hw5)
                        go_ret
                        exact ⟨rfl, ⟨FB.out.os, FB.out.tape, FB.out.output, FB.out.size, FB.out.block⟩⟩
            · clear HP
              go_wp2
              go_ret
              exact ⟨rfl, Below.refl _ _⟩
      · have hne : ¬ ((m1 : Int) = (m2 : Int)) := by omega
        go_wp2
        go_ret
        exact ⟨rfl, Below.refl _ _⟩

end Go.Proofs.Qxb6626320a.Flattens
