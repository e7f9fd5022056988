/-
  LAW TWO: the walk.
-/
import Derived.Test.Qxb6625896aTwoHeap
namespace Go.Proofs.Qxb6625896a.Two
open Go.RowKit
open Go.Proofs.Qxb6625896a.Plain Go.Proofs.Qxb6625896a.Frame Go.Proofs.Qxb6625896a.Parts Go.Proofs.Qxb6625896a.Heap Go.Proofs.Qxb6625896a.Delete Go.Proofs.Qxb6625896a.Mark Go.Proofs.Qxb6625896a.Build Go.Proofs.Qxb6625896a.Plain2 Go.Proofs.Qxb6625896a.Idx
open Go.Proofs.Qxb6625896a.One (Base Base.kept)
set_option linter.unusedVariables false
set_option linter.unusedSimpArgs false

set_option maxRecDepth 1000000 in
set_option maxHeartbeats 8000000 in
theorem walk_main (ao : Option Addr) (n cap cut L : Nat) (inc wait : Int) (cs : List Chk) (w : World) (hh : Held w ao cs) (hn : cs.length = n) (hcap : n ≤ cap) (hcm : cap ≤ maxLen) (hmax : n ≤ 65536) (hcut : cut ≤ n) (hL : L ≤ 15) :
    Calls Try.prog 4 #[.slice ao n cap, .int .i64 cut, .int .i64 L, .int .i64 wait, .int .u64 inc] w fun e w' => e = .returned (.bool true) ∧ Below w.heap.size w w' := by
  unfold maxLen at hcm
  have HH : Hid (Held w ao cs) := hh
  have HN : Hid (cs.length = n) := hn
  have HNA : Hid ((cs.take cut).length = cut) := by show List.length _ = _; rw [List.length_take, hn]; omega
  have HNB : Hid ((cs.drop cut).length = n - cut) := by show List.length _ = _; rw [List.length_drop, hn]
  clear hh
  have q0 : decide (n ≤ 1048576) = true := by simp; omega
  have q1 : ¬ (65536 : Int) < (n : Int) := by omega
  have q2 : ¬ (L : Int) < 0 := by omega
  have q3 : ¬ (15 : Int) < (L : Int) := by omega
  have q4 : ¬ (cut : Int) < 0 := by omega
  have q5 : ¬ (n : Int) < (cut : Int) := by omega
  have q6 : (cut : Int) ≤ (cap : Int) := by omega
  obtain ⟨kA, hkA⟩ : ∃ k, ckN inc L (cs.take cut) = k := ⟨_, rfl⟩
  obtain ⟨kB, hkB⟩ : ∃ k, ckN inc (L + kA) (cs.drop cut) = k := ⟨_, rfl⟩
  have hkW : ckN inc L cs = kA + kB := by rw [n_cut inc L cs cut, hkA, hkB]
  have lA := ckN_le inc (cs.take cut) L
  have lB := ckN_le inc (cs.drop cut) (L + kA)
  have l15 := ckN_eq inc cs L hL
  rw [hkA, HNA.out] at lA
  rw [hkB, HNB.out] at lB
  have hK15 : L + (kA + kB) ≤ 15 := by omega
  have HKA : Hid (ckN inc L (cs.take cut) = kA) := hkA
  have HKB : Hid (ckN inc (L + kA) (cs.drop cut) = kB) := hkB
  have HKW : Hid (ckN inc L cs = kA + kB) := hkW
  clear hkA hkB hkW l15 hn
  go_enter Try.func4, Try.ntmps4
  go_wp2_with (go_at_call 17; refine (bytes2_any ao n cap cut L wait inc _ (by unfold maxLen; omega)).mono ?_; rintro e w' ⟨rfl, hw⟩; obtain rfl := hw.symm)
  refine (count_any ao n cap L inc cs _ HH.out HN.out hmax hL).mono ?_
  rintro e w1 ⟨rfl, hb1⟩
  rw [HKW.out]
  go_wp2_with fail
  refine (build_any ao n cap cs w1 (HH.out.below hb1) HN.out hmax).mono ?_
  rintro e w2 ⟨rfl, bsW, hbuilt⟩
  have HB : Hid (Built w1 w1.heap.size (w1.heap.size + 1) bsW n cs w2) := hbuilt
  clear hbuilt
  go_wp2_with fail
  refine (newSlots_any (w1.heap.size + 1) n n L wait w2).mono ?_
  rintro e w3 ⟨rfl, hw3⟩
  have HL3 : Hid (Lot w3 w2.heap.size (w1.heap.size + 1) n wait L bsW cs) := by
    rw [hw3]; exact lot_first HB.out HN.out hmax hL
  have HW3 : Hid (w3 = w2.alloc (slotObj (w1.heap.size + 1) n n L wait)) := hw3
  clear hw3
  go_wp2_with fail
  refine (zmark_any w2.heap.size (w1.heap.size + 1) n L inc wait bsW cs w3 HL3.out).mono ?_
  rintro e w4 ⟨rfl, hran⟩
  have BW : Hid (Base w w1.heap.size (w1.heap.size + 1) w2.heap.size w4.heap.size n inc wait L bsW cs w4) := by
    have := hran
    rw [HW3.out] at this
    exact base_first hb1 HB.out HN.out hmax hL this
  have HLW : Hid (bsW.length = n) := by show List.length _ = _; rw [HB.out.objs.length, HN.out]
  clear hran HL3 HW3 HB
  generalize w1.heap.size = oW at *
  generalize w2.heap.size = sW at *
  go_wp2_with fail
  refine (build_any ao cut cap (cs.take cut) w4 (held_take (HH.out.below BW.out.below) cut) HNA.out (by omega)).mono ?_
  rintro e w5 ⟨rfl, bsA, hbuilt⟩
  have HB : Hid (Built w4 w4.heap.size (w4.heap.size + 1) bsA cut (cs.take cut) w5) := hbuilt
  clear hbuilt
  go_wp2_with fail
  refine (newSlots_any (w4.heap.size + 1) cut cut L wait w5).mono ?_
  rintro e w6 ⟨rfl, hw6⟩
  have HL6 : Hid (Lot w6 w5.heap.size (w4.heap.size + 1) cut wait L bsA (cs.take cut)) := by
    rw [hw6]; exact lot_first HB.out HNA.out (by omega) hL
  have HW6 : Hid (w6 = w5.alloc (slotObj (w4.heap.size + 1) cut cut L wait)) := hw6
  clear hw6
  go_wp2_with fail
  refine (zmark_any w5.heap.size (w4.heap.size + 1) cut L inc wait bsA (cs.take cut) w6 HL6.out).mono ?_
  rintro e w7 ⟨rfl, hran⟩
  have BA : Hid (Base w4 w4.heap.size (w4.heap.size + 1) w5.heap.size w7.heap.size cut inc wait L bsA (cs.take cut) w7) := by
    have := hran
    rw [HW6.out] at this
    exact base_first (Below.refl _ _) HB.out HNA.out (by omega) hL this
  have HLA : Hid (bsA.length = cut) := by show List.length _ = _; rw [HB.out.objs.length, HNA.out]
  have BW7 : Hid (Base w oW (oW + 1) sW w4.heap.size n inc wait L bsW cs w7) := Base.later BW.out BA.out.below
  clear hran HL6 HW6 HB BW
  generalize w4.heap.size = oA at *
  generalize w5.heap.size = sA at *
  have HSA : Hid (w7.heap[sA]? = some (slotObj (oA + 1) (ckKeep inc L (cs.take cut) bsA).length cut ((L + kA : Nat) : Int) wait)) := by
    have := BA.out.slot
    rw [HKA.out] at this
    exact this
  have hsl := slice_from ao n cap cut hcut
  have HD := held_drop (HH.out.below (BW7.out.below)) cut cap (by rw [HN.out]; exact hcap)
  generalize (if cap = cut then ao else ao.map (·.add (cut * 3))) = aoB at hsl HD
  go_wp2_with (go_at_call 10; refine (late_any sA (oA + 1) _ cut ((L + kA : Nat) : Int) wait _ HSA.out).mono ?_; rintro e w' ⟨rfl, hw⟩; obtain rfl := hw.symm)
  clear hsl HSA
  refine (build_any aoB (n - cut) (cap - cut) (cs.drop cut) w7 HD HNB.out (by omega)).mono ?_
  rintro e w8 ⟨rfl, bsB, hbuilt⟩
  have HB : Hid (Built w7 w7.heap.size (w7.heap.size + 1) bsB (n - cut) (cs.drop cut) w8) := hbuilt
  clear hbuilt HD
  go_wp2_with fail
  refine (newSlots_any (w7.heap.size + 1) (n - cut) (n - cut) _ wait w8).mono ?_
  rintro e w9 ⟨rfl, hw9⟩
  rw [show ((L : Int) + (kA : Int)) = ((L + kA : Nat) : Int) from by omega] at hw9
  have HL9 : Hid (Lot w9 w8.heap.size (w7.heap.size + 1) (n - cut) wait (L + kA) bsB (cs.drop cut)) := by
    rw [hw9]; exact lot_first HB.out HNB.out (by omega) (by omega)
  have HW9 : Hid (w9 = w8.alloc (slotObj (w7.heap.size + 1) (n - cut) (n - cut) ((L + kA : Nat) : Int) wait)) := hw9
  clear hw9
  go_wp2_with fail
  refine (zmark_any w8.heap.size (w7.heap.size + 1) (n - cut) (L + kA) inc wait bsB (cs.drop cut) w9 HL9.out).mono ?_
  rintro e w10 ⟨rfl, hran⟩
  have BB : Hid (Base w7 w7.heap.size (w7.heap.size + 1) w8.heap.size w10.heap.size (n - cut) inc wait (L + kA) bsB (cs.drop cut) w10) := by
    have := hran
    rw [HW9.out] at this
    exact base_first (Below.refl _ _) HB.out HNB.out (by omega) (by omega) this
  have HLB : Hid (bsB.length = n - cut) := by show List.length _ = _; rw [HB.out.objs.length, HNB.out]
  have BA10 : Hid (Base w4 oA (oA + 1) sA w7.heap.size cut inc wait L bsA (cs.take cut) w10) := Base.later BA.out BB.out.below
  have BW10 : Hid (Base w oW (oW + 1) sW oA n inc wait L bsW cs w10) := Base.kept BW7.out (Kept.of_below BB.out.below)
  clear hran HL9 HW9 HB BA BW7
  generalize w7.heap.size = oB at *
  generalize w8.heap.size = sB at *
  obtain ⟨klW, hklW⟩ : ∃ k, (ckKeep inc L cs bsW).length = k := ⟨_, rfl⟩
  obtain ⟨klA, hklA⟩ : ∃ k, (ckKeep inc L (cs.take cut) bsA).length = k := ⟨_, rfl⟩
  obtain ⟨klB, hklB⟩ : ∃ k, (ckKeep inc (L + kA) (cs.drop cut) bsB).length = k := ⟨_, rfl⟩
  have eW := keep_len inc L (show bsW.length = cs.length by rw [HLW.out, HN.out])
  have eA := keep_len inc L (show bsA.length = (cs.take cut).length by rw [HLA.out, HNA.out])
  have eB := keep_len inc (L + kA) (show bsB.length = (cs.drop cut).length by rw [HLB.out, HNB.out])
  rw [hklW, HN.out, HKW.out] at eW
  rw [hklA, HNA.out, HKA.out] at eA
  rw [hklB, HNB.out, HKB.out] at eB
  have fW1 : klW + (kA + kB) ≤ n := by omega
  have fW2 : n ≤ klW + (kA + kB) := by omega
  have fA1 : klA + kA ≤ cut := by omega
  have fA2 : cut ≤ klA + kA := by omega
  have fB1 : klB + kB + cut ≤ n := by omega
  have fB2 : n ≤ klB + kB + cut := by omega
  have HSW : Hid (w10.heap[sW]? = some (slotObj (oW + 1) klW n ((L + (kA + kB) : Nat) : Int) wait)) := by
    have := BW10.out.slot
    rw [HKW.out, hklW] at this
    exact this
  have HSA : Hid (w10.heap[sA]? = some (slotObj (oA + 1) klA cut ((L + kA : Nat) : Int) wait)) := by
    have := BA10.out.slot
    rw [HKA.out, hklA] at this
    exact this
  have HSB : Hid (w10.heap[sB]? = some (slotObj (oB + 1) klB (n - cut) ((L + kA + kB : Nat) : Int) wait)) := by
    have := BB.out.slot
    rw [HKB.out, hklB] at this
    exact this
  have HKLW : Hid ((ckKeep inc L cs bsW).length = klW) := hklW
  have HKLA : Hid ((ckKeep inc L (cs.take cut) bsA).length = klA) := hklA
  have HKLB : Hid ((ckKeep inc (L + kA) (cs.drop cut) bsB).length = klB) := hklB
  clear eW eA eB hklW hklA hklB
  go_wp2_with (first
    | (go_at_call_of 10 (Value.pointer (some ⟨sW, 0, Option.none⟩)); refine (late_any sW (oW + 1) klW n _ wait _ HSW.out).mono ?_; rintro e w' ⟨rfl, hw⟩; obtain rfl := hw.symm)
    | (go_at_call_of 10 (Value.pointer (some ⟨sB, 0, Option.none⟩)); refine (late_any sB (oB + 1) klB (n - cut) _ wait _ HSB.out).mono ?_; rintro e w' ⟨rfl, hw⟩; obtain rfl := hw.symm)
    | (go_at_call_of 11 (Value.pointer (some ⟨sW, 0, Option.none⟩)); refine (waiting_any sW (oW + 1) klW n _ wait _ HSW.out).mono ?_; rintro e w' ⟨rfl, hw⟩; obtain rfl := hw.symm)
    | (go_at_call_of 11 (Value.pointer (some ⟨sA, 0, Option.none⟩)); refine (waiting_any sA (oA + 1) klA cut _ wait _ HSA.out).mono ?_; rintro e w' ⟨rfl, hw⟩; obtain rfl := hw.symm)
    | (go_at_call_of 11 (Value.pointer (some ⟨sB, 0, Option.none⟩)); refine (waiting_any sB (oB + 1) klB (n - cut) _ wait _ HSB.out).mono ?_; rintro e w' ⟨rfl, hw⟩; obtain rfl := hw.symm)
    | (go_at_call_of 12 (Value.pointer (some ⟨sW, 0, Option.none⟩)); refine (held_any sW (oW + 1) klW n _ wait _ HSW.out).mono ?_; rintro e w' ⟨rfl, hw⟩; obtain rfl := hw.symm)
    | (go_at_call_of 12 (Value.pointer (some ⟨sA, 0, Option.none⟩)); refine (held_any sA (oA + 1) klA cut _ wait _ HSA.out).mono ?_; rintro e w' ⟨rfl, hw⟩; obtain rfl := hw.symm)
    | (go_at_call_of 12 (Value.pointer (some ⟨sB, 0, Option.none⟩)); refine (held_any sB (oB + 1) klB (n - cut) _ wait _ HSB.out).mono ?_; rintro e w' ⟨rfl, hw⟩; obtain rfl := hw.symm))
  clear HSW HSA HSB
  obtain ⟨A1, a1, a2, a3⟩ := BW10.out.arr1
  obtain ⟨A2, b1, b2, b3⟩ := BW10.out.arr2
  refine (idx_any oW (oW + 1) n klW n 0 bsW (ckKeep inc L cs bsW) (ixOf inc L cs) (ckMark inc L cs) A1 A2 w10 a1 a3 b1 b3 BW10.out.objs BW10.out.nodup HLW.out HKLW.out (places inc L (by rw [HLW.out, HN.out])) hmax (by omega) (by omega) (by omega)).mono ?_
  rintro e w11 ⟨rfl, hgW⟩
  have GW : Hid (Got w10 w10.heap.size klW 0 (ixOf inc L cs) klW w11) := hgW
  have BA11 : Hid (Base w4 oA (oA + 1) sA oB cut inc wait L bsA (cs.take cut) w11) := Base.kept BA10.out (Kept.of_below hgW.below)
  clear a1 a2 a3 b1 b2 b3 hgW A1 A2
  go_wp2_with fail
  obtain ⟨A1, a1, a2, a3⟩ := BA11.out.arr1
  obtain ⟨A2, b1, b2, b3⟩ := BA11.out.arr2
  refine (idx_any oA (oA + 1) cut klA cut 0 bsA (ckKeep inc L (cs.take cut) bsA) (ixOf inc L (cs.take cut)) (ckMark inc L (cs.take cut)) A1 A2 w11 a1 a3 b1 b3 BA11.out.objs BA11.out.nodup HLA.out HKLA.out (places inc L (by rw [HLA.out, HNA.out])) (by omega) (by omega) (by omega) (by omega)).mono ?_
  rintro e w12 ⟨rfl, hgA⟩
  have GA : Hid (Got w11 w11.heap.size klA 0 (ixOf inc L (cs.take cut)) klA w12) := hgA
  have BB12 : Hid (Base w7 oB (oB + 1) sB w10.heap.size (n - cut) inc wait (L + kA) bsB (cs.drop cut) w12) := Base.kept BB.out (Kept.of_below (GW.out.below.trans (hgA.below.mono GW.out.below.size)))
  clear a1 a2 a3 b1 b2 b3 hgA A1 A2
  go_wp2_with fail
  obtain ⟨A1, a1, a2, a3⟩ := BB12.out.arr1
  obtain ⟨A2, b1, b2, b3⟩ := BB12.out.arr2
  refine (idx_any oB (oB + 1) (n - cut) klB (n - cut) cut bsB (ckKeep inc (L + kA) (cs.drop cut) bsB) (ixOf inc (L + kA) (cs.drop cut)) (ckMark inc (L + kA) (cs.drop cut)) A1 A2 w12 a1 a3 b1 b3 BB12.out.objs BB12.out.nodup HLB.out HKLB.out (places inc (L + kA) (by rw [HLB.out, HNB.out])) (by omega) (by omega) (by omega) (by omega)).mono ?_
  rintro e w13 ⟨rfl, hgB⟩
  clear a1 a2 a3 b1 b2 b3 A1 A2
  have s12 := GA.out.below.size
  have s11 := GW.out.below.size
  have s13 := hgB.below.size
  have b13 : Below w10.heap.size w10 w13 := (GW.out.below.trans (GA.out.below.mono s11)).trans (hgB.below.mono (by omega))
  have HBW : Hid (Base w oW (oW + 1) sW oA n inc wait L bsW cs w13) := Base.kept BW10.out (Kept.of_below b13)
  have HBA : Hid (Base w4 oA (oA + 1) sA oB cut inc wait L bsA (cs.take cut) w13) := Base.kept BA10.out (Kept.of_below b13)
  have HBB : Hid (Base w7 oB (oB + 1) sB w10.heap.size (n - cut) inc wait (L + kA) bsB (cs.drop cut) w13) := Base.kept BB.out (Kept.of_below b13)
  have HXW : Hid (∀ (p i : Nat), (ixOf inc L cs)[p]? = some i → w13.cell? ⟨w10.heap.size, p, Option.none⟩ = some (.int .i64 (i : Int))) := fun p i hi => by
    obtain ⟨X, x1, x2, x3⟩ := GW.out.arr
    have x4 : w13.heap[w10.heap.size]? = some (.cells X 3 (0, 0)) := by
      rw [hgB.below.block _ (by have := lt_of_block x1; omega), GA.out.below.block _ (lt_of_block x1)]; exact x1
    have hlt := (List.getElem?_eq_some_iff.1 hi).1
    rw [ix_len, HN.out, HKW.out] at hlt
    rw [cell_of x4, x3 p i (by omega) hi, Int.add_zero]
  have HXA : Hid (∀ (p i : Nat), (ixOf inc L (cs.take cut))[p]? = some i → w13.cell? ⟨w11.heap.size, p, Option.none⟩ = some (.int .i64 (i : Int))) := fun p i hi => by
    obtain ⟨X, x1, x2, x3⟩ := GA.out.arr
    have x4 : w13.heap[w11.heap.size]? = some (.cells X 3 (0, 0)) := by
      rw [hgB.below.block _ (by have := lt_of_block x1; omega)]; exact x1
    have hlt := (List.getElem?_eq_some_iff.1 hi).1
    rw [ix_len, HNA.out, HKA.out] at hlt
    rw [cell_of x4, x3 p i (by omega) hi, Int.add_zero]
  have HXB : Hid (∀ (p i : Nat), (ixOf inc (L + kA) (cs.drop cut))[p]? = some i → w13.cell? ⟨w12.heap.size, p, Option.none⟩ = some (.int .i64 ((i : Int) + (cut : Int)))) := fun p i hi => by
    obtain ⟨X, x1, x2, x3⟩ := hgB.arr
    have hlt := (List.getElem?_eq_some_iff.1 hi).1
    rw [ix_len, HNB.out, HKB.out] at hlt
    rw [cell_of x1, x3 p i (by omega) hi]
  have HIX : Hid (ixOf inc L cs = ixOf inc L (cs.take cut) ++ (ixOf inc (L + kA) (cs.drop cut)).map (fun i => i + cut)) := by
    have := ix_cut inc L cs cut (by rw [HN.out]; exact hcut)
    rw [HKA.out] at this
    exact this
  have HMK : Hid (ckMark inc L cs = ckMark inc L (cs.take cut) ++ ckMark inc (L + kA) (cs.drop cut)) := by
    have := mark_cut inc L cs cut
    rw [HKA.out] at this
    exact this
  have HIA : Hid ((ixOf inc L (cs.take cut)).length = klA) := by show List.length _ = _; rw [ix_len, HNA.out, HKA.out]; omega
  have HIB : Hid ((ixOf inc (L + kA) (cs.drop cut)).length = klB) := by show List.length _ = _; rw [ix_len, HNB.out, HKB.out]; omega
  have BEL : Hid (Below w.heap.size w w13) := HBW.out.below
  clear GW GA hgB BA11 BB12 BB BA10 BW10 b13 s11 s12 s13
  generalize w10.heap.size = xW at *
  generalize w11.heap.size = xA at *
  generalize w12.heap.size = xB at *
  clear q0 q1 q2 q3 q4 q5 q6
  go_wp2
  go_loopw [32] (fun pv wv => ∃ (p q : Nat), p ≤ klA ∧ pv = .int .i64 p ∧ wv = w13.drewN q) (fun pv _ => klA - (intOf pv).toNat)
  case atStart => exact ⟨0, 0, Nat.zero_le _, rfl, rfl⟩
  case round =>
    obtain ⟨p, q, hp, rfl, rfl⟩ := hrel
    by_cases hlt : p < klA
    · obtain ⟨i, hi⟩ : ∃ i, (ixOf inc L (cs.take cut))[p]? = some i := ⟨_, List.getElem?_eq_getElem (by rw [HIA.out]; exact hlt)⟩
      have hA := HXA.out p i hi
      have hW := HXW.out p i (by rw [HIX.out, List.getElem?_append_left (by rw [HIA.out]; exact hlt)]; exact hi)
      have g1 : (p : Int) < (klA : Int) := by omega
      have g2 : (p : Int) < (klW : Int) := by omega
      clear hi
      go_wp2
      go_quiet (fail)
      go_wp2
      go_roundw
      case rel => exact ⟨p + 1, q + nq, by omega, by go_num, by simp [World.drewN, Nat.add_assoc]⟩
      case measure => simp [intOf]; omega
    · go_wp2
      go_loopw [33] (fun pv wv => ∃ (p q : Nat), p ≤ klB ∧ pv = .int .i64 p ∧ wv = w13.drewN q) (fun pv _ => klB - (intOf pv).toNat)
      case atStart => exact ⟨0, q, Nat.zero_le _, rfl, rfl⟩
      case round =>
        obtain ⟨r, q2, hr, rfl, rfl⟩ := hrel
        by_cases hlt2 : r < klB
        · obtain ⟨i, hi⟩ : ∃ i, (ixOf inc (L + kA) (cs.drop cut))[r]? = some i := ⟨_, List.getElem?_eq_getElem (by rw [HIB.out]; exact hlt2)⟩
          have hB := HXB.out r i hi
          have hW := HXW.out (klA + r) (i + cut) (by rw [HIX.out, List.getElem?_append_right (by rw [HIA.out]; omega), HIA.out, List.getElem?_map, Nat.add_sub_cancel_left, hi]; rfl)
          have g1 : (r : Int) < (klB : Int) := by omega
          have g2 : (klA : Int) + (r : Int) < (klW : Int) := by omega
          clear hi
          go_wp2
          go_quiet (fail)
          go_wp2
          go_roundw
          case rel => exact ⟨r + 1, q2 + nq, by omega, by go_num, by simp [World.drewN, Nat.add_assoc]⟩
          case measure => simp [intOf]; omega
        · go_wp2
          go_loopw [34] (fun pv wv => ∃ (i : Nat), i ≤ n ∧ pv = .int .i64 i ∧ wv = w13.drewN q2) (fun pv _ => n - (intOf pv).toNat)
          case atStart => exact ⟨0, Nat.zero_le _, rfl, rfl⟩
          case round =>
            obtain ⟨i, hi, rfl, rfl⟩ := hrel
            by_cases hlt3 : i < n
            · obtain ⟨bW, hbW⟩ : ∃ b, bsW[i]? = some b := ⟨_, List.getElem?_eq_getElem (by rw [HLW.out]; exact hlt3)⟩
              obtain ⟨m, hm⟩ : ∃ m, (ckMark inc L cs)[i]? = some m := ⟨_, List.getElem?_eq_getElem (by rw [ckMark_length, HN.out]; exact hlt3)⟩
              obtain ⟨A1, a1, a2, a3⟩ := HBW.out.arr1
              have cW : w13.cell? ⟨oW, i, Option.none⟩ = some (.pointer (some ⟨bW, 0, Option.none⟩)) := by
                rw [cell_of a1]
                simpa [ptr] using a3 i bW hbW
              have OW : Hid (w13.heap[bW]? = some (chkObj m)) := HBW.out.objs.at hbW hm
              clear hbW a1 a2 a3
              by_cases hic : i < cut
              · obtain ⟨bA, hbA⟩ : ∃ b, bsA[i]? = some b := ⟨_, List.getElem?_eq_getElem (by rw [HLA.out]; exact hic)⟩
                obtain ⟨A2, a1, a2, a3⟩ := HBA.out.arr1
                have cA : w13.cell? ⟨oA, i, Option.none⟩ = some (.pointer (some ⟨bA, 0, Option.none⟩)) := by
                  rw [cell_of a1]
                  simpa [ptr] using a3 i bA hbA
                have OA : Hid (w13.heap[bA]? = some (chkObj m)) := HBA.out.objs.at hbA (by
                  rw [HMK.out, List.getElem?_append_left (by rw [ckMark_length, HNA.out]; exact hic)] at hm
                  exact hm)
                clear hbA a1 a2 a3 hm
                go_wp2_with (first
                  | (go_at_call_of 16 (Value.pointer (some ⟨bA, 0, Option.none⟩)); refine (outLate_any bA m _ ?_).mono ?_; exact OA.out; rintro e w' ⟨rfl, hw⟩; obtain rfl := hw.symm)
                  | (go_at_call_of 16 (Value.pointer (some ⟨bW, 0, Option.none⟩)); refine (outLate_any bW m _ ?_).mono ?_; exact OW.out; rintro e w' ⟨rfl, hw⟩; obtain rfl := hw.symm))
                go_roundw
                case rel => exact ⟨i + 1, by omega, by go_num, by first | trivial | rfl⟩
                case measure => simp [intOf]; omega
              · obtain ⟨d, rfl⟩ : ∃ d, i = cut + d := ⟨i - cut, by omega⟩
                obtain ⟨bB, hbB⟩ : ∃ b, bsB[d]? = some b := ⟨_, List.getElem?_eq_getElem (by rw [HLB.out]; omega)⟩
                obtain ⟨A2, a1, a2, a3⟩ := HBB.out.arr1
                have cB : w13.cell? ⟨oB, d, Option.none⟩ = some (.pointer (some ⟨bB, 0, Option.none⟩)) := by
                  rw [cell_of a1]
                  simpa [ptr] using a3 d bB hbB
                have OB : Hid (w13.heap[bB]? = some (chkObj m)) := HBB.out.objs.at hbB (by
                  rw [HMK.out, List.getElem?_append_right (by rw [ckMark_length, HNA.out]; omega), ckMark_length, HNA.out, Nat.add_sub_cancel_left] at hm
                  exact hm)
                have gd : (d : Int) < ((n - cut : Nat) : Int) := by omega
                clear hbB a1 a2 a3 hm
                go_wp2_with (first
                  | (go_at_call_of 16 (Value.pointer (some ⟨bB, 0, Option.none⟩)); refine (outLate_any bB m _ ?_).mono ?_; exact OB.out; rintro e w' ⟨rfl, hw⟩; obtain rfl := hw.symm)
                  | (go_at_call_of 16 (Value.pointer (some ⟨bW, 0, Option.none⟩)); refine (outLate_any bW m _ ?_).mono ?_; exact OW.out; rintro e w' ⟨rfl, hw⟩; obtain rfl := hw.symm))
                go_roundw
                case rel => exact ⟨cut + d + 1, by omega, by go_num, by first | trivial | rfl⟩
                case measure => simp [intOf]; omega
            · go_wp2
              go_ret
              exact ⟨rfl, ⟨BEL.out.os, BEL.out.tape, BEL.out.output, BEL.out.size, BEL.out.block⟩⟩

end Go.Proofs.Qxb6625896a.Two
