/-
  LAW 'SCRIPT': the walk.
-/
import Derived.Test.Qxb6626320aScriptHeap
namespace Go.Proofs.Qxb6626320a.Script
open Go.RowKit
open Go.Proofs.Qxb6626320a.Frame Go.Proofs.Qxb6626320a.Parts Go.Proofs.Qxb6626320a.Text Go.Proofs.Qxb6626320a.Recs Go.Proofs.Qxb6626320a.Flat Go.Proofs.Qxb6626320a.Plain
set_option linter.unusedVariables false
set_option linter.unusedSimpArgs false

theorem below_dr {w w' : World} {q : Nat} (h : Below (w.drewN q).heap.size (w.drewN q) w') : Below w.heap.size w w' := ⟨h.os, h.tape, h.output, h.size, h.block⟩

theorem At.drewN {w : World} {ao : Option Addr} {xs : List Value} (h : At w ao xs) (q : Nat) : At (w.drewN q) ao xs := fun i x hx => by
  obtain ⟨g, off, e, hc⟩ := h i x hx
  exact ⟨g, off, e, hc⟩

theorem uvLen_is (x ku : Nat) (hx : x ≤ 4194304) (h : (Lib.uvarint x).length = ku) (w : World) : Calls Try.prog 14 #[.int .u64 x] w fun e w' => e = .returned (.int .i64 ku) ∧ w' = w := by
  subst h; exact uvLen_any x hx w

set_option maxRecDepth 1000000 in
set_option maxHeartbeats 4000000 in
theorem walk (ao : Option Addr) (n cap : Nat) (ss : List ByteArray) (w : World) (ha : At w ao (strs ss)) (hl : ss.length = n) (hnil : ao = Option.none → n = 0) (hm : n ≤ maxLen) (hs : ∀ s ∈ ss, s.size ≤ maxLen) :
    Calls Try.prog 4 #[.slice ao n cap] w fun e w' => e = .returned (.bool true) ∧ Below w.heap.size w w' := by
  have HA : Hid (At w ao (strs ss)) := ha
  have HL : Hid (ss.length = n) := hl
  have HNIL : Hid (ao = Option.none → n = 0) := hnil
  have HB := bytesS_any ao n cap ss w ha hl hm hs
  unfold maxLen at hm
  clear ha hl hnil hs
  go_enter Try.func4, Try.ntmps4
  go_wp2_with fail
  refine HB.mono ?_
  rintro e w' ⟨⟨b, rfl, hb⟩, hw⟩
  obtain rfl := hw.symm
  clear HB
  cases b
  · go_wp2
    go_ret
    exact ⟨rfl, Below.refl _ _⟩
  · obtain ⟨hb1, hb2⟩ := hb rfl
    have HS : Hid (∀ s ∈ ss, s.size ≤ 1048576) := hb2
    clear hb hb2
    by_cases h1 : (65536 : Int) < (n : Int)
    · go_wp2
      go_ret
      exact ⟨rfl, Below.refl _ _⟩
    · go_wp2
      go_loop [3, 4] (fun zv iv => ∃ z i : Nat, z ≤ 1048576 ∧ i ≤ n ∧ zv = .int .i64 z ∧ iv = .int .i64 i ∧ Hid (z = tot (ss.take i))) (fun _ iv => n - (intOf iv).toNat)
      case atStart => exact ⟨0, 0, Nat.zero_le _, Nat.zero_le _, rfl, rfl, rfl⟩
      case round =>
        obtain ⟨z, i, hz, hi, rfl, rfl, HT⟩ := hrel
        by_cases hlt : i < n
        · obtain ⟨s, hs⟩ : ∃ s, ss[i]? = some s := ⟨_, List.getElem?_eq_getElem (by rw [HL.out]; exact hlt)⟩
          obtain ⟨g, off, rfl, d1⟩ := HA.out i (.string s) (by simp [strs, hs])
          have hsz := HS.out s (List.mem_of_getElem? hs)
          have HT2 : Hid (z + (16 + s.size) = tot (ss.take (i + 1))) := by
            show _ = _
            rw [List.take_add_one, hs, HT.out]
            simp [tot]
          clear hs HT
          by_cases h3 : (1048576 : Int) < (z : Int) + (16 + (s.size : Int))
          · go_wp2
            go_ret
            exact ⟨rfl, Below.refl _ _⟩
          · go_wp2
            go_round
            case rel => exact ⟨z + (16 + s.size), i + 1, by omega, by omega, by go_num, by go_num, HT2⟩
            case measure => simp [intOf]; omega
        · have HTOT : Hid (tot ss ≤ 1048576) := by
            have := HT.out
            rw [List.take_of_length_le (by rw [HL.out]; omega)] at this
            show _ ≤ _
            omega
          go_wp2_with fail
          clear hlt hi HT hz
          refine (cloneS_any ao n cap (strs ss) w HA.out (by rw [strs, List.length_map]; exact HL.out) HNIL.out (fun x hx => by obtain ⟨t, _, rfl⟩ := List.mem_map.1 hx; exact ⟨t, rfl⟩) (by omega)).mono ?_
          rintro e w1 ⟨vs, rfl, hbel, hown, hnew⟩
          obtain ⟨az, cz, rfl⟩ := own_slice_n hown
          have HSC : Hid (Sc w w1.heap.size (.slice az n cz) (.slice Option.none 0 0) (.slice Option.none 0 0) (.slice Option.none 0 0) (.slice Option.none 0 0) ss (run (ss.take 0)).bl (run (ss.take 0)).hs (run (ss.take 0)).hl (encAll (ss.take 0)) (Plain.longs (ss.take 0)) (w1.alloc (.cells #[.slice Option.none 0 0, .slice Option.none 0 0, .int .i64 0] 43))) := sc_start HL.out hbel hown
          have HSUM : Hid (∀ i, i ≤ n → Sums (ss.take i) ∧ tot (ss.take i) ≤ 1048576) := fun i hi => ⟨sums_take ss (fun s hs => by have := HS.out s hs; omega) i (by rw [HL.out]; exact hi), Nat.le_trans (tot_take ss i) HTOT.out⟩
          clear hbel hown hnew
          go_wp2
          generalize (w1.alloc (.cells #[.slice Option.none 0 0, .slice Option.none 0 0, .int .i64 0] 43)) = w2 at HSC ⊢
          generalize w1.heap.size = rb at HSC ⊢
          go_loopw [6, 7, 8, 9, 10, 11] (fun wv lv bv hv gv iv wr => ∃ (vw vl vb vh : Value) (i l1 l2 l3 : Nat), vw = wv ∧ vl = gv ∧ i ≤ n ∧ l1 ≤ 1048576 ∧ l2 ≤ 1048576 ∧ l3 ≤ 1048576 ∧ lv = .int .i64 l1 ∧ bv = .int .i64 l2 ∧ hv = .int .i64 l3 ∧ iv = .int .i64 i ∧
              Hid (l1 = (encAll (ss.take i)).length ∧ l2 = (run (ss.take i)).bl.length ∧ l3 = (run (ss.take i)).hl) ∧
              Hid (Sc w rb (.slice az n cz) vb vh vw vl ss (run (ss.take i)).bl (run (ss.take i)).hs (run (ss.take i)).hl (encAll (ss.take i)) (Plain.longs (ss.take i)) wr)) (fun _ _ _ _ _ iv _ => n - (intOf iv).toNat)
          case atStart => exact ⟨_, _, _, _, 0, 0, 0, 0, rfl, rfl, Nat.zero_le _, Nat.zero_le _, Nat.zero_le _, Nat.zero_le _, rfl, rfl, rfl, rfl, (⟨rfl, rfl, rfl⟩ : 0 = (encAll (ss.take 0)).length ∧ 0 = (run (ss.take 0)).bl.length ∧ 0 = (run (ss.take 0)).hl), HSC⟩
          case round =>
            clear HSC
            obtain ⟨vw, vl, vb, vh, i, l1, l2, l3, rfl, rfl, hi, hl1, hl2, hl3, rfl, rfl, rfl, rfl, HLS, HSC⟩ := hrel
            obtain ⟨SM, hT⟩ := HSUM.out i hi
            have bE := SM.e
            have bB := SM.b
            have bH := SM.h
            have bL := SM.hl
            have bG := SM.g
            rw [List.length_take] at bH bG
            by_cases hlt : i < n
            · obtain ⟨s, hs⟩ : ∃ s, ss[i]? = some s := ⟨_, List.getElem?_eq_getElem (by rw [HL.out]; exact hlt)⟩
              have hsz := HS.out s (List.mem_of_getElem? hs)
              obtain ⟨az', cz', hv', _, _, hat, _⟩ := own_at HSC.out.src
              rw [HL.out] at hv'
              simp only [Value.slice.injEq, true_and] at hv'
              obtain ⟨ea, ec⟩ := hv'
              subst ea
              subst ec
              obtain ⟨g, off, he, d1⟩ := hat i (.string s) (by simp [strs, hs])
              cases he
              have HTK : Hid (ss.take (i + 1) = ss.take i ++ [s]) := by show List.take _ _ = _; rw [List.take_add_one, hs]; rfl
              have HSI : Hid (ss[i]? = some s) := hs
              have ESZ : Hid (s.data.toList.length = s.size) := by show List.length _ = _; simp
              have hku10 := Lib.uvarint_length64 (x := s.size) (by omega)
              obtain ⟨ku, hku⟩ : ∃ ku, (Lib.uvarint s.size).length = ku := ⟨_, rfl⟩
              rw [hku] at hku10
              have HKU : Hid ((Lib.uvarint s.size).length = ku) := hku
              clear hs hat hku
              by_cases hlong : s.size < 4096
              · have c12 : (s.size : Int) < 4096 := by omega
                go_wp2_with fail
                refine (text_short rb s vb vh _ _ _ _ HSC.out.rcd hlong (by omega)).mono ?_
                rintro e w3 ⟨rfl, vb', r1, k1, o1⟩
                have S1 := HSC.out.text r1 k1 o1 (Onward.refl _ _)
                have d3 := S1.cell HSI.out
                clear r1 k1 o1 d1
                go_wp2_with fail
                refine (appendString_any vw s _ w3 S1.want (by omega) (by omega)).mono ?_
                rintro e w4 ⟨vw', rfl, q1, k2, o2⟩
                have S2 := S1.wanted q1 k2 o2
                have d4 := S2.cell HSI.out
                clear q1 k2 o2 d3 S1
                have R : Hid (Sc w rb (.slice (some ⟨g, off, Option.none⟩) n cz) vb' vh vw' vl ss (run (ss.take (i + 1))).bl (run (ss.take (i + 1))).hs (run (ss.take (i + 1))).hl (encAll (ss.take (i + 1))) (Plain.longs (ss.take (i + 1))) w4) := by
                  rw [HTK.out, run_snoc, encAll_snoc, longs_snoc, if_neg (by omega), List.append_nil]
                  unfold stp
                  rw [if_pos hlong]
                  exact S2
                have RL : Hid (l1 + (ku + s.size) = (encAll (ss.take (i + 1))).length ∧ l2 + (ku + s.size) = (run (ss.take (i + 1))).bl.length ∧ l3 = (run (ss.take (i + 1))).hl) := by
                  obtain ⟨z1, z2, z3⟩ := HLS.out
                  rw [HTK.out, run_snoc, encAll_snoc]
                  unfold stp
                  rw [if_pos hlong]
                  simp only [List.length_append, frame, ESZ.out, HKU.out]
                  exact ⟨by omega, by omega, z3⟩
                have RB := HSUM.out (i + 1) (by omega)
                have RB1 : l1 + (ku + s.size) ≤ 1048576 := by have := RL.out.1; have := RB.1.e; omega
                have RB2 : l2 + (ku + s.size) ≤ 1048576 := by have := RL.out.2.1; have := RB.1.b; omega
                clear S2 HSC HLS RB bE bB bH bL bG hT SM
                go_wp2_with (go_at_call 14; refine (uvLen_is s.size ku (by omega) HKU.out _).mono ?_; rintro e w5 ⟨rfl, hw⟩; obtain rfl := hw.symm)
                go_roundw
                case rel => exact ⟨vw', vl, vb', vh, i + 1, _, _, l3, rfl, rfl, by omega, RB1, RB2, hl3, by go_num, by go_num, rfl, by go_num, RL, R⟩
                case measure => simp [intOf]; omega
              · have c12 : ¬ (s.size : Int) < 4096 := by omega
                go_wp2_with fail
                refine (text_long rb s vb vh _ _ _ _ HSC.out.rcd (by omega) (by omega) (by omega) (by omega) (by omega)).mono ?_
                rintro e w3 ⟨rfl, vb', vh', r1, k1, o1, o1h⟩
                have S1 := HSC.out.text r1 k1 o1 o1h
                have d3 := S1.cell HSI.out
                clear r1 k1 o1 o1h d1
                go_wp2_with fail
                refine (appendString_any vw s _ w3 S1.want (by omega) (by omega)).mono ?_
                rintro e w4 ⟨vw', rfl, q1, k2, o2⟩
                have S2 := S1.wanted q1 k2 o2
                have d4 := S2.cell HSI.out
                clear q1 k2 o2 d3 S1
                obtain ⟨vl', w6, hrun, q3, k3, o3⟩ := push_long S2.longs s (by omega)
                have S3 := S2.longed q3 k3 o3
                have HRUN : Hid _ := hrun
                have R : Hid (Sc w rb (.slice (some ⟨g, off, Option.none⟩) n cz) vb' vh' vw' vl' ss (run (ss.take (i + 1))).bl (run (ss.take (i + 1))).hs (run (ss.take (i + 1))).hl (encAll (ss.take (i + 1))) (Plain.longs (ss.take (i + 1))) w6) := by
                  rw [HTK.out, run_snoc, encAll_snoc, longs_snoc, if_pos (by omega)]
                  unfold stp
                  rw [if_neg hlong]
                  exact S3
                have RL : Hid (l1 + (ku + s.size) = (encAll (ss.take (i + 1))).length ∧ l2 + ku = (run (ss.take (i + 1))).bl.length ∧ l3 + s.size = (run (ss.take (i + 1))).hl) := by
                  obtain ⟨z1, z2, z3⟩ := HLS.out
                  rw [HTK.out, run_snoc, encAll_snoc]
                  unfold stp
                  rw [if_neg hlong]
                  simp only [List.length_append, frame, ESZ.out, HKU.out]
                  exact ⟨by omega, by omega, by omega⟩
                have RB := HSUM.out (i + 1) (by omega)
                have RB1 : l1 + (ku + s.size) ≤ 1048576 := by have := RL.out.1; have := RB.1.e; omega
                have RB2 : l2 + ku ≤ 1048576 := by have := RL.out.2.1; have := RB.1.b; omega
                have RB3 : l3 + s.size ≤ 1048576 := by have := RL.out.2.2; have := RB.1.hl; omega
                clear S2 S3 HSC HLS RB bE bB bH bL bG hT SM hrun q3 k3 o3
                go_wp2_with (first
                  | (go_at_call 14; refine (uvLen_is s.size ku (by omega) HKU.out _).mono ?_; rintro e w5 ⟨rfl, hw⟩; obtain rfl := hw.symm)
                  | (at_builtin; refine wpList_append_run _ rfl (.tmp 93) (.tmp 98) 24 24 rfl _ _ vl' w6 rfl rfl HRUN.out ?_))
                go_roundw
                case rel => exact ⟨vw', vl', vb', vh', i + 1, _, _, _, rfl, rfl, by omega, RB1, RB2, RB3, by go_num, by go_num, by go_num, by go_num, RL, R⟩
                case measure => simp [intOf]; omega
            · have hin : i = n := by omega
              subst hin
              have hcl : Hid (ss.take i = ss) := by show List.take _ _ = _; rw [List.take_of_length_le (by rw [HL.out]; exact Nat.le_refl _)]
              have hinv := inv_take ss i (by rw [HL.out]; exact Nat.le_refl _)
              have S0 := HSC.out
              have L0 := HLS.out
              rw [hcl.out] at hinv S0 L0 bE bB bH bL bG hT
              clear HSC HLS SM hi
              generalize hst : run ss = st at hinv S0 L0 bB bH bL
              obtain ⟨bl, hs, hl⟩ := st
              clear hst
              simp only at hinv S0 L0 bB bH bL
              have hflat := hinv.flat
              have hok := hinv.ok
              have hstr := hinv.strict
              have hheld := hinv.held
              have hhl := hinv.hl
              simp only at hflat hok hstr hheld hhl
              clear hinv
              generalize hel : encAll ss = el at hflat S0 L0 bE
              generalize hls : Plain.longs ss = ls at hheld S0 bG
              clear hel hls hcl
              obtain ⟨z1, z2, z3⟩ := L0
              subst z3
              have hlen2 : ls.length = hs.length := by rw [← hheld, List.length_map]
              obtain ⟨m, hm2⟩ : ∃ m, hs.length = m := ⟨_, rfl⟩
              have HM2 : Hid (hs.length = m) := hm2
              rw [hm2] at hlen2
              have PARTS := parts_any rb vb vh bl hs l3 wr S0.rcd (by omega)
              rw [hm2] at PARTS
              obtain ⟨ab, cb, hvb, hb1', hb2', hatB, -⟩ := own_at S0.rcd.ownb
              rw [← z2] at hvb hb1'
              obtain ⟨aw, cw, hvw, -, -, hatW, -⟩ := own_at S0.want
              rw [← z1] at hvw
              obtain ⟨al, cl, hvl, -, -, hatL, -⟩ := own_at S0.longs
              rw [hlen2] at hvl
              subst hvb
              subst hvw
              subst hvl
              have hmb : m ≤ 1048576 := by omega
              have HS0 : Hid (Sc w rb (.slice az i cz) (.slice ab l2 cb) vh (.slice aw l1 cw) (.slice al m cl) ss bl hs l3 el ls wr) := S0
              have HFL : Hid (Flat.flat bl hs = el) := hflat
              have HOK : Hid (OkFrom l2 0 hs) := by have := hok; rw [← z2] at this; exact this
              have HST : Hid (Strict 0 hs) := hstr
              have HHE : Hid (hs.map (·.2) = ls) := hheld
              have HZ1 : Hid (l1 = el.length) := z1
              have HZ2 : Hid (l2 = bl.length) := z2
              have HSZ : Hid (l2 + sizes hs ≤ 4194304) := by show _ ≤ _; omega
              have HNB : Hid (ab = Option.none → l2 = 0) := fun e => by
                subst e
                rcases S0.rcd.ownb.2 with ⟨h0, h1⟩ | ⟨gg, cc, cur, h0, _⟩
                · omega
                · simp at h0
              have HATB : Hid (At wr ab (bc bl)) := hatB
              have HATW : Hid (At wr aw (bc el)) := hatW
              have HATL : Hid (At wr al (strs ls)) := hatL
              clear S0 hflat hok hstr hheld hhl z1 z2 hatB hatW hatL hm2 bE bB bH bL bG hT hlen2
              go_wp2_with fail
              refine PARTS.mono ?_
              rintro e w3 ⟨rfl, hbel, o3, o9⟩
              have CB : Hid (At w3 ab (bc bl)) := HATB.out.below hbel
              have CW : Hid (At w3 aw (bc el)) := HATW.out.below hbel
              have CL : Hid (At w3 al (strs ls)) := HATL.out.below hbel
              have BEL : Hid (Below w.heap.size w w3) := HS0.out.below.trans (hbel.mono HS0.out.below.size)
              obtain ⟨x3, c3, hv3, -, -, hat3, -⟩ := own_at o3
              obtain ⟨x9, c9, hv9, -, -, hat9, -⟩ := own_at o9
              simp only [Value.slice.injEq] at hv3 hv9
              obtain ⟨e3, -, -⟩ := hv3
              obtain ⟨e9, -, -⟩ := hv9
              subst e3
              subst e9
              have CT : Hid (At w3 (some ⟨wr.heap.size, 0, Option.none⟩) (atCells hs)) := hat3
              have CS : Hid (At w3 (some ⟨wr.heap.size + 1, 0, Option.none⟩) (sCells hs)) := hat9
              clear PARTS hbel o3 o9 hat3 hat9 HATB HATW HATL HS0
              generalize wr.heap.size = xa at *
              go_wp2
              go_loopw [17, 18] (fun pv jv wv => ∃ (prev j q : Nat), j ≤ m ∧ prev ≤ 1048576 ∧ pv = .int .i64 prev ∧ jv = .int .i64 j ∧ wv = w3.drewN q ∧ Hid (Strict prev (hs.drop j)) ∧ Hid (OkFrom l2 prev (hs.drop j))) (fun _ jv _ => m - (intOf jv).toNat)
              case atStart => exact ⟨0, 0, 0, Nat.zero_le _, Nat.zero_le _, rfl, rfl, rfl, HST, HOK⟩
              case round =>
                obtain ⟨prev, j, q, hj, hprev, rfl, rfl, rfl, HS2, HO2⟩ := hrel
                by_cases hlt2 : j < m
                · obtain ⟨p, hp⟩ : ∃ p, hs[j]? = some p := ⟨_, List.getElem?_eq_getElem (by rw [HM2.out]; exact hlt2)⟩
                  have hdrop : hs.drop j = p :: hs.drop (j + 1) := by
                    obtain ⟨h1, h2⟩ := List.getElem?_eq_some_iff.1 hp
                    rw [List.drop_eq_getElem_cons h1, h2]
                  have hs2 := HS2.out
                  have ho2 := HO2.out
                  rw [hdrop] at hs2 ho2
                  obtain ⟨y1, y2⟩ := hs2
                  obtain ⟨y3, y4, y5⟩ := ho2
                  have Y2 : Hid (Strict p.1 (hs.drop (j + 1))) := y2
                  have Y5 : Hid (OkFrom l2 p.1 (hs.drop (j + 1))) := y5
                  have hlj : ls[j]? = some p.2 := by rw [← HHE.out, List.getElem?_map, hp]; rfl
                  obtain ⟨g1, f1, he1, u1⟩ := CT.out j (.int .i64 (p.1 : Int)) (by simp [atCells, hp])
                  cases he1
                  obtain ⟨g2, f2, he2, u2'⟩ := CS.out j (.string p.2) (by simp [sCells, hp])
                  cases he2
                  obtain ⟨g3, f3, he3, u3⟩ := CL.out j (.string p.2) (by simp [strs, hlj])
                  subst he3
                  rw [Nat.zero_add] at u1 u2'
                  have k1 : decide ((p.1 : Int) ≤ (prev : Int)) = false := by simp; omega
                  have k2 : decide ((l2 : Int) < (p.1 : Int)) = false := by simp; omega
                  have k3 : (j : Int) < (m : Int) := by omega
                  clear hp hdrop y2 y5 hlj HS2 HO2
                  go_wp2
                  go_quiet (fail)
                  go_wp2
                  go_roundw
                  case rel => exact ⟨p.1, j + 1, q + nq, by omega, by omega, by go_num, by go_num, by simp [World.drewN, Nat.add_assoc], Y2, Y5⟩
                  case measure => simp [intOf]; omega
                · go_wp2_with fail
                  have FL := flat_any ab (some ⟨xa, 0, Option.none⟩) (some ⟨xa + 1, 0, Option.none⟩) l2 cb m m m bl hs (w3.drewN q) (At.drewN CB.out q) (At.drewN CT.out q) (At.drewN CS.out q) HZ2.out.symm HM2.out hb1' hb2' HNB.out HOK.out HSZ.out (by omega)
                  refine FL.mono ?_
                  rintro e w4 ⟨vf, rfl, hout⟩
                  obtain ⟨af, cf, hvf, -, -, hatF, -⟩ := own_at hout.own
                  have hfl : (Flat.flat bl hs).length = l1 := by rw [HFL.out, HZ1.out]
                  rw [hfl] at hvf
                  subst hvf
                  have FF : Hid (At w4 af (bc el)) := by rw [← HFL.out]; exact hatF
                  have FW : Hid (At w4 aw (bc el)) := At.below (At.drewN CW.out q) hout.below
                  have FB : Hid (Below w.heap.size w w4) := BEL.out.trans (below_dr hout.below |>.mono BEL.out.size)
                  clear hout hatF hfl FL
                  go_wp2_with (go_at_call 16; refine (eq_true af aw l1 cf cw el w4 FF.out FW.out HZ1.out.symm (by omega)).mono ?_; rintro e w5 ⟨rfl, q5, hw5⟩; subst hw5)
                  go_ret
                  exact ⟨rfl, ⟨FB.out.os, FB.out.tape, FB.out.output, FB.out.size, FB.out.block⟩⟩

end Go.Proofs.Qxb6626320a.Script
