/-
  LAW ONE: the walk.
-/
import Derived.Test.Qxb6625896aOneHeap
import Derived.Lib.JoinLaws
namespace Go.Proofs.Qxb6625896a.One
open Go.RowKit
open Go.Proofs.Qxb6625896a.Plain Go.Proofs.Qxb6625896a.Frame Go.Proofs.Qxb6625896a.Parts Go.Proofs.Qxb6625896a.Heap Go.Proofs.Qxb6625896a.Delete Go.Proofs.Qxb6625896a.Mark Go.Proofs.Qxb6625896a.Build Go.Proofs.Qxb6625896a.Plain2
set_option linter.unusedVariables false
set_option linter.unusedSimpArgs false

theorem info4 : (Try.prog.info? 4).map (fun i => (i.zero, i.size, i.bytes)) = some (some (.bool false), 1, 1) := by kernel_rfl

theorem lot_first {w1 w2 : World} {ob pb n : Nat} {wait : Int} {L : Nat} {bs : List Nat} {cs : List Chk} (h : Built w1 ob pb bs n cs w2) (hn : cs.length = n) (hmax : n ≤ 65536) (hL : L ≤ 15) :
    Lot (w2.alloc (slotObj pb n n L wait)) w2.heap.size pb n wait L bs cs := by
  obtain ⟨A2, b1, b2, b3⟩ := h.arr2
  have hlen := h.objs.length
  refine ⟨h.objs.congr fun b hb => ?_, h.nodup, ?_, ⟨A2, block_old _ b1, b2, b3⟩, by omega, hmax, hL⟩
  · obtain ⟨c, hc⟩ := h.objs.mem b hb
    rw [block_old _ hc, hc]
  · rw [block_new, hlen, hn]

theorem base_first {w0 w1 w2 w4 : World} {n : Nat} {inc wait : Int} {L : Nat} {bs : List Nat} {cs : List Chk} (h1 : Below w0.heap.size w0 w1) (h : Built w1 w1.heap.size (w1.heap.size + 1) bs n cs w2) (hn : cs.length = n) (hmax : n ≤ 65536) (hL : L ≤ 15)
    (hr : Ran (w2.alloc (slotObj (w1.heap.size + 1) n n L wait)) w2.heap.size (w1.heap.size + 1) n inc wait L bs cs w4) :
    Base w0 w1.heap.size (w1.heap.size + 1) w2.heap.size w4.heap.size n inc wait L bs cs w4 := by
  have hlot := lot_first (wait := wait) h hn hmax hL
  obtain ⟨A1, a1, a2, a3⟩ := h.arr1
  obtain ⟨A2, b1, b2, b3⟩ := h.arr2
  have s1 := h1.size
  have s2 := h.below.size
  have s4 := hr.kept.size
  rw [World.size_alloc] at s4
  have l1 := lt_of_block a1
  have l2 := lt_of_block b1
  have hob : ¬ own w2.heap.size (w1.heap.size + 1) bs w1.heap.size := by
    rintro (e | e | e)
    · omega
    · omega
    · obtain ⟨c, hc⟩ := h.objs.mem _ e
      exact ne_of hc a1 (by decide) rfl
  have hlt : ∀ k, k = w1.heap.size ∨ k = w1.heap.size + 1 ∨ k = w2.heap.size ∨ k ∈ bs → w0.heap.size ≤ k ∧ k < w4.heap.size := by
    rintro k (rfl | rfl | rfl | hk)
    · omega
    · omega
    · omega
    · have := h.new k hk
      obtain ⟨c, hc⟩ := h.objs.mem _ hk
      have := lt_of_block hc
      omega
  refine ⟨?_, ⟨A1, hr.kept.at (block_old _ a1) hob, a2, a3⟩, hr.arr, hr.objs, hr.slot, h.nodup, hlt, by omega⟩
  refine (h1.trans (h.below.mono s1)).trans (((Below.refl _ _).alloc (by omega) _).trans (hr.kept.below (by rw [World.size_alloc]; omega) ?_))
  rintro k (rfl | rfl | hk)
  · omega
  · omega
  · have := h.new k hk
    omega

theorem l1_first {w0 w4 : World} {ob pb sb n : Nat} {inc wait : Int} {L : Nat} {bs : List Nat} {cs : List Chk} (h : Base w0 ob pb sb w4.heap.size n inc wait L bs cs w4) :
    L1 w0 ob pb sb w4.heap.size n inc wait L bs cs 0 ((w4.alloc (.cells (madeCells #[.pointer Option.none] n) 35)).alloc (.cells (madeCells #[.bool false] n) 4)) := by
  refine ⟨h.kept (((Kept.refl _ _).alloc _).alloc _), ⟨_, block_old _ (block_new _ _), size_madeCells _ _, fun i b hb => ?_⟩, ⟨madeCells #[.bool false] n, ?_, size_madeCells _ _, fun j m hj => by omega⟩⟩
  · simp [ckKeep] at hb
  · have := block_new (w4.alloc (.cells (madeCells #[.pointer Option.none] n) 35)) (.cells (madeCells #[.bool false] n) 4)
    rwa [World.size_alloc] at this

theorem cell_keep {w w' : World} (hb : Below w.heap.size w w') {a : Addr} {v : Value} (h : w.cell? a = some v) : w'.cell? a = some v := (hb.cell (lt_of_cell h)).trans h

theorem append_at {w w' : World} {kb m n b : Nat} {K : Array Value} (hb : Below w.heap.size w w') (hK : w'.heap[kb]? = some (.cells K 35 (0, 0))) (hsz : K.size = n) (hm : m < n) (u : Value) (i : Nat) :
    ∀ ty, (Builtin.append_ #[26, 26] ty #[.slice (some ⟨kb, 0, Option.none⟩) m n, .slice (some ⟨w'.heap.size, 0, Option.none⟩) 1 1]).run Try.prog ((w'.setCell ⟨kb + 1, i, Option.none⟩ u).alloc (.cells #[.pointer (some ⟨b, 0, Option.none⟩)] 35)) =
      .ok (.slice (some ⟨kb, 0, Option.none⟩) (m + 1) n) (((w'.setCell ⟨kb + 1, i, Option.none⟩ u).setCell ⟨kb, m, Option.none⟩ (.pointer (some ⟨b, 0, Option.none⟩))).alloc (.cells #[.pointer (some ⟨b, 0, Option.none⟩)] 35)) := fun ty => by
  have := append_one (w'.setCell ⟨kb + 1, i, Option.none⟩ u) kb m n ty b K (by rw [block_set_ne _ _ (by omega)]; exact hK) hsz hm
  rw [World.size_setCell] at this
  exact this

set_option maxRecDepth 1000000 in
set_option maxHeartbeats 8000000 in
theorem walk_main (ao : Option Addr) (n cap L : Nat) (inc wait : Int) (cs : List Chk) (w : World) (hh : Held w ao cs) (hn : cs.length = n) (hmax : n ≤ 65536) (hL : L ≤ 15) :
    Calls Try.prog 3 #[.slice ao n cap, .int .i64 L, .int .i64 wait, .int .u64 inc] w fun e w' => e = .returned (.bool true) ∧ Below w.heap.size w w' := by
  have HH : Hid (Held w ao cs) := hh
  have HN : Hid (cs.length = n) := hn
  clear hh hn
  have q0 : decide (n ≤ 1048576) = true := by simp; omega
  have q1 : ¬ (65536 : Int) < (n : Int) := by omega
  have q2 : ¬ (L : Int) < 0 := by omega
  have q3 : ¬ (15 : Int) < (L : Int) := by omega
  have hK1 := ckN_le inc cs L
  have hK2 := ckN_eq inc cs L hL
  have hK3 : ckN inc L cs ≤ n := by rw [← HN.out]; exact hK1
  have hK4 : L + ckN inc L cs ≤ 15 := by omega
  clear hK1 hK2
  have hmk1 := run_make_room (P := Try.prog) 26 35 (.pointer Option.none) 8 Try.underlying26 info35 rfl .i64 .i64 n (by omega) (by omega)
  have hmk2 := run_make_row' (P := Try.prog) 34 4 (.bool false) 1 Try.underlying34 info4 rfl .i64 .i64 n (by omega) (by omega)
  go_enter Try.func3, Try.ntmps3
  go_wp2_with (go_at_call 5; refine (bytes1_any ao n cap L wait inc _ (by unfold maxLen; omega)).mono ?_; rintro e w' ⟨rfl, hw⟩; obtain rfl := hw.symm)
  refine (count_any ao n cap L inc cs _ HH.out HN.out hmax hL).mono ?_
  rintro e w1 ⟨rfl, hb1⟩
  go_wp2_with fail
  refine (build_any ao n cap cs w1 (HH.out.below hb1) HN.out hmax).mono ?_
  rintro e w2 ⟨rfl, bs, hbuilt⟩
  have HB : Hid (Built w1 w1.heap.size (w1.heap.size + 1) bs n cs w2) := hbuilt
  clear hbuilt
  go_wp2_with fail
  refine (newSlots_any (w1.heap.size + 1) n n L wait w2).mono ?_
  rintro e w3 ⟨rfl, hw3⟩
  have HL3 : Hid (Lot w3 w2.heap.size (w1.heap.size + 1) n wait L bs cs) := by
    rw [hw3]; exact lot_first HB.out HN.out hmax hL
  have HW3 : Hid (w3 = w2.alloc (slotObj (w1.heap.size + 1) n n L wait)) := hw3
  clear hw3
  go_wp2_with fail
  refine (zmark_any w2.heap.size (w1.heap.size + 1) n L inc wait bs cs w3 HL3.out).mono ?_
  rintro e w4 ⟨rfl, hran⟩
  have HBASE : Hid (Base w w1.heap.size (w1.heap.size + 1) w2.heap.size w4.heap.size n inc wait L bs cs w4) := by
    have := hran
    rw [HW3.out] at this
    exact base_first hb1 HB.out HN.out hmax hL this
  clear hran
  generalize hob : w1.heap.size = ob at *
  generalize hsb : w2.heap.size = sb at *
  have hlen : (ckKeep inc L cs bs).length = n - ckN inc L cs := by rw [keep_len inc L HB.out.objs.length, HN.out]
  have HBS : Hid (bs.length = n) := by show List.length _ = _; rw [HB.out.objs.length, HN.out]
  obtain ⟨kl, hkl⟩ : ∃ kl, (ckKeep inc L cs bs).length = kl := ⟨_, rfl⟩
  obtain ⟨k, hk⟩ : ∃ k, ckN inc L cs = k := ⟨_, rfl⟩
  have HSL : Hid (w4.heap[sb]? = some (slotObj (ob + 1) kl n ((L + k : Nat) : Int) wait)) := by
    have := HBASE.out.slot
    rw [hkl, hk] at this
    exact this
  rw [hkl, hk] at hlen
  rw [hk] at hK3 hK4 ⊢
  have HKL : Hid ((ckKeep inc L cs bs).length = kl) := hkl
  have HK : Hid (ckN inc L cs = k) := hk
  have e1 : kl + k ≤ n := by omega
  have e2 : n ≤ kl + k := by omega
  have e3 : ((kl : Int) != (n : Int) - (k : Int)) = false := by simp; omega
  clear hlen hkl hk HB HL3 HW3 hob hsb hb1
  go_wp2_with (first
    | (go_at_call 10; refine (late_any sb (ob + 1) kl n ((L + k : Nat) : Int) wait _ HSL.out).mono ?_; rintro e w' ⟨rfl, hw⟩; obtain rfl := hw.symm)
    | (go_at_call 11; refine (waiting_any sb (ob + 1) kl n ((L + k : Nat) : Int) wait _ HSL.out).mono ?_; rintro e w' ⟨rfl, hw⟩; obtain rfl := hw.symm)
    | (go_at_call 12; refine (held_any sb (ob + 1) kl n ((L + k : Nat) : Int) wait _ HSL.out).mono ?_; rintro e w' ⟨rfl, hw⟩; obtain rfl := hw.symm))
  have HL1 : Hid (L1 w ob (ob + 1) sb w4.heap.size n inc wait L bs cs 0 ((w4.alloc (.cells (madeCells #[.pointer Option.none] n) 35)).alloc (.cells (madeCells #[.bool false] n) 4))) := l1_first HBASE.out
  clear q0 q1 q2 q3 hmk1 hmk2 HBASE HSL e3
  generalize ((w4.alloc (.cells (madeCells #[.pointer Option.none] n) 35)).alloc (.cells (madeCells #[.bool false] n) 4)) = w5 at HL1 ⊢
  generalize w4.heap.size = kb at HL1 ⊢
  go_loopw [15, 17, 18] (fun kp se i wr => ∃ (t m sn : Nat), t ≤ n ∧ m ≤ t ∧ sn ≤ t ∧ kp = .slice (some ⟨kb, 0, Option.none⟩) m n ∧ se = .int .i64 sn ∧ i = .int .i64 t ∧ Hid (m = (ckKeep inc L (cs.take t) (bs.take t)).length) ∧ Hid (sn = ckDues inc (cs.take t)) ∧ Hid (L1 w ob (ob + 1) sb kb n inc wait L bs cs t wr)) (fun _ _ i _ => n - (intOf i).toNat)
  case atStart => exact ⟨0, 0, 0, Nat.zero_le _, Nat.le_refl _, Nat.le_refl _, rfl, rfl, rfl, rfl, rfl, HL1⟩
  case round =>
    clear HL1
    obtain ⟨t, m, sn, ht, hmt, hsn, rfl, rfl, rfl, HM, HSN, HL1⟩ := hrel
    by_cases hlt : t < n
    · obtain ⟨c, hc⟩ : ∃ c, cs[t]? = some c := ⟨_, List.getElem?_eq_getElem (by rw [HN.out]; exact hlt)⟩
      obtain ⟨b, hb⟩ : ∃ b, bs[t]? = some b := ⟨_, List.getElem?_eq_getElem (by rw [HBS.out]; exact hlt)⟩
      obtain ⟨b0, off, rfl, h0, h1, h2⟩ := HH.out.below HL1.out.base.below t c hc
      obtain ⟨A1, a1, a2, a3⟩ := HL1.out.base.arr1
      have hob : wr.cell? ⟨ob, t, Option.none⟩ = some (.pointer (some ⟨b, 0, Option.none⟩)) := by
        rw [cell_of a1]
        simpa [ptr] using a3 t b hb
      have HOB : Hid (wr.heap[b]? = some (chkObj (if ckRet inc (L + ckN inc L (cs.take t)) c = true then { c with l := true } else c))) := HL1.out.base.objs.at hb (mark_at inc L hc)
      have HMEM : Hid (b ∈ bs) := List.mem_of_getElem? hb
      have HC : Hid (cs[t]? = some c) := hc
      have HBT : Hid (bs[t]? = some b) := hb
      have HRT : Hid (ckRet inc (L + ckN inc L (cs.take t)) c = (ckDue inc c && decide (sn < k))) := by
        show ckRet _ _ _ = _
        rw [ret_at inc L hc hL, ← HSN.out, HK.out]
      have HDS : Hid (ckDues inc (cs.take (t + 1)) = sn + if ckDue inc c = true then 1 else 0) := by
        show ckDues _ _ = _
        rw [dues_succ inc hc, ← HSN.out]
      clear hc hb a1 a2 a3 HSN
      obtain ⟨ca, cq, cl⟩ := c
      simp only at h0 h1 h2
      cases hd : ckDue inc ⟨ca, cq, cl⟩
      · have HR : Hid (ckRet inc (L + ckN inc L (cs.take t)) ⟨ca, cq, cl⟩ = false) := by
          show ckRet _ _ _ = _
          rw [HRT.out, hd]; rfl
        have HO : Hid (wr.heap[b]? = some (chkObj ⟨ca, cq, cl⟩)) := by
          have := HOB.out
          rw [if_neg (by rw [HR.out]; decide)] at this
          exact this
        clear HOB HRT
        go_wp2
        go_quiet ((first | (go_at_call 13; exact Calls.quiet_of_same (outAfter_any b ⟨ca, cq, cl⟩ _ HO.out)) | (go_at_call 14; exact Calls.quiet_of_same (outQueried_any b ⟨ca, cq, cl⟩ _ HO.out))))
        go_wp2_with (first
          | (go_at_call 15; refine (due_any ca inc cq cl _).mono ?_; rintro e w' ⟨rfl, hb2⟩; replace hb2 := below_dr hb2; obtain ⟨⟨old, g1⟩, g2, ⟨K, g3, g4⟩, g5⟩ := HL1.out.arrays hb2 hlt; have gk := lt_of_block g3; have g6 : w'.cell? ⟨b0, off + t * 3 + 2, Option.none⟩ = some (.bool cl) := cell_keep hb2 h2; have HAPP : Hid _ := append_at (b := b) hb2 g3 g4 (show m < n by omega) (.bool cl) t; have GB : Hid (Below wr.heap.size wr w') := hb2; clear hb2 g3 g4 g5)
          | (at_builtin; refine wpList_append_run _ rfl (.tmp 132) (.tmp 134) 26 26 rfl _ _ _ _ rfl rfl (HAPP.out _) ?_))
        have R : Hid (L1 w ob (ob + 1) sb kb n inc wait L bs cs (t + 1) (((w'.setCell ⟨kb + 1, t, Option.none⟩ (.bool cl)).setCell ⟨kb, m, Option.none⟩ (.pointer (some ⟨b, 0, Option.none⟩))).alloc (.cells #[.pointer (some ⟨b, 0, Option.none⟩)] 35))) := by
          have := HL1.out.keep GB.out HC.out HBT.out hlt HR.out (by rw [← HM.out]; omega)
          rw [← HM.out] at this
          exact this
        have hm := mark_at inc L HC.out
        rw [if_neg (by rw [HR.out]; decide)] at hm
        have hwant := R.out.want (Nat.lt_succ_self t) hm
        have HOX : Hid ((((w'.setCell ⟨kb + 1, t, Option.none⟩ (.bool cl)).setCell ⟨kb, m, Option.none⟩ (.pointer (some ⟨b, 0, Option.none⟩))).alloc (.cells #[.pointer (some ⟨b, 0, Option.none⟩)] 35)).heap[b]? = some (chkObj ⟨ca, cq, cl⟩)) := R.out.base.objs.at HBT.out hm
        clear hm g1 g2 g6 gk h0 h1 h2 hob HAPP
        generalize (((w'.setCell ⟨kb + 1, t, Option.none⟩ (.bool cl)).setCell ⟨kb, m, Option.none⟩ (.pointer (some ⟨b, 0, Option.none⟩))).alloc (.cells #[.pointer (some ⟨b, 0, Option.none⟩)] 35)) = wX at R hwant HOX ⊢
        simp only at hwant
        go_quiet ((go_at_call 16; exact Calls.quiet_of_same (outLate_any b ⟨ca, cq, cl⟩ _ HOX.out)))
        go_wp2
        go_roundw
        case rel =>
          refine ⟨t + 1, m + 1, sn, by omega, by omega, by omega, by go_num, rfl, by go_num, ?_, ?_, R.out.drew _⟩
          · show _ = _
            rw [keep_succ inc L HC.out HBT.out, if_neg (by rw [HR.out]; decide), List.length_append, ← HM.out]; rfl
          · show _ = _
            rw [HDS.out, hd]; rfl
        case measure => simp [intOf]; omega
      · by_cases hk2 : (sn : Int) < (k : Int)
        · have HR : Hid (ckRet inc (L + ckN inc L (cs.take t)) ⟨ca, cq, cl⟩ = true) := by
            show ckRet _ _ _ = _
            rw [HRT.out, hd]; simp; omega
          have HO : Hid (wr.heap[b]? = some (chkObj ⟨ca, cq, true⟩)) := by
            have := HOB.out
            rw [if_pos HR.out] at this
            exact this
          clear HOB HRT
          go_wp2
          go_quiet ((first | (go_at_call 13; exact Calls.quiet_of_same (outAfter_any b ⟨ca, cq, true⟩ _ HO.out)) | (go_at_call 14; exact Calls.quiet_of_same (outQueried_any b ⟨ca, cq, true⟩ _ HO.out))))
          go_wp2_with (go_at_call 15; refine (due_any ca inc cq cl _).mono ?_; rintro e w' ⟨rfl, hb2⟩; replace hb2 := below_dr hb2; obtain ⟨⟨old, g1⟩, g2, _, g5⟩ := HL1.out.arrays hb2 hlt; have GB : Hid (Below wr.heap.size wr w') := hb2; clear hb2 g5)
          have R : Hid (L1 w ob (ob + 1) sb kb n inc wait L bs cs (t + 1) (w'.setCell ⟨kb + 1, t, Option.none⟩ (.bool true))) := HL1.out.retire GB.out HC.out HBT.out hlt HR.out
          have hm := mark_at inc L HC.out
          rw [if_pos HR.out] at hm
          have hwant := R.out.want (Nat.lt_succ_self t) hm
          have HOX : Hid ((w'.setCell ⟨kb + 1, t, Option.none⟩ (.bool true)).heap[b]? = some (chkObj ⟨ca, cq, true⟩)) := R.out.base.objs.at HBT.out hm
          clear hm g1 g2 h0 h1 h2 hob
          generalize (w'.setCell ⟨kb + 1, t, Option.none⟩ (.bool true)) = wX at R hwant HOX ⊢
          simp only at hwant
          go_quiet ((go_at_call 16; exact Calls.quiet_of_same (outLate_any b ⟨ca, cq, true⟩ _ HOX.out)))
          go_wp2
          go_roundw
          case rel =>
            refine ⟨t + 1, m, sn + 1, by omega, by omega, by omega, rfl, by go_num, by go_num, ?_, ?_, R.out.drew _⟩
            · show _ = _
              rw [keep_succ inc L HC.out HBT.out, if_pos HR.out, List.append_nil]; exact HM.out
            · show _ = _
              rw [HDS.out, hd]; rfl
          case measure => simp [intOf]; omega
        · have HR : Hid (ckRet inc (L + ckN inc L (cs.take t)) ⟨ca, cq, cl⟩ = false) := by
            show ckRet _ _ _ = _
            rw [HRT.out, hd]; simp; omega
          have HO : Hid (wr.heap[b]? = some (chkObj ⟨ca, cq, cl⟩)) := by
            have := HOB.out
            rw [if_neg (by rw [HR.out]; decide)] at this
            exact this
          clear HOB HRT
          go_wp2
          go_quiet ((first | (go_at_call 13; exact Calls.quiet_of_same (outAfter_any b ⟨ca, cq, cl⟩ _ HO.out)) | (go_at_call 14; exact Calls.quiet_of_same (outQueried_any b ⟨ca, cq, cl⟩ _ HO.out))))
          go_wp2_with (first
            | (go_at_call 15; refine (due_any ca inc cq cl _).mono ?_; rintro e w' ⟨rfl, hb2⟩; replace hb2 := below_dr hb2; obtain ⟨⟨old, g1⟩, g2, ⟨K, g3, g4⟩, g5⟩ := HL1.out.arrays hb2 hlt; have gk := lt_of_block g3; have g6 : w'.cell? ⟨b0, off + t * 3 + 2, Option.none⟩ = some (.bool cl) := cell_keep hb2 h2; have HAPP : Hid _ := append_at (b := b) hb2 g3 g4 (show m < n by omega) (.bool cl) t; have GB : Hid (Below wr.heap.size wr w') := hb2; clear hb2 g3 g4 g5)
            | (at_builtin; refine wpList_append_run _ rfl (.tmp 132) (.tmp 134) 26 26 rfl _ _ _ _ rfl rfl (HAPP.out _) ?_))
          have R : Hid (L1 w ob (ob + 1) sb kb n inc wait L bs cs (t + 1) (((w'.setCell ⟨kb + 1, t, Option.none⟩ (.bool cl)).setCell ⟨kb, m, Option.none⟩ (.pointer (some ⟨b, 0, Option.none⟩))).alloc (.cells #[.pointer (some ⟨b, 0, Option.none⟩)] 35))) := by
            have := HL1.out.keep GB.out HC.out HBT.out hlt HR.out (by rw [← HM.out]; omega)
            rw [← HM.out] at this
            exact this
          have hm := mark_at inc L HC.out
          rw [if_neg (by rw [HR.out]; decide)] at hm
          have hwant := R.out.want (Nat.lt_succ_self t) hm
          have HOX : Hid ((((w'.setCell ⟨kb + 1, t, Option.none⟩ (.bool cl)).setCell ⟨kb, m, Option.none⟩ (.pointer (some ⟨b, 0, Option.none⟩))).alloc (.cells #[.pointer (some ⟨b, 0, Option.none⟩)] 35)).heap[b]? = some (chkObj ⟨ca, cq, cl⟩)) := R.out.base.objs.at HBT.out hm
          clear hm g1 g2 g6 gk h0 h1 h2 hob HAPP
          generalize (((w'.setCell ⟨kb + 1, t, Option.none⟩ (.bool cl)).setCell ⟨kb, m, Option.none⟩ (.pointer (some ⟨b, 0, Option.none⟩))).alloc (.cells #[.pointer (some ⟨b, 0, Option.none⟩)] 35)) = wX at R hwant HOX ⊢
          simp only at hwant
          go_quiet ((go_at_call 16; exact Calls.quiet_of_same (outLate_any b ⟨ca, cq, cl⟩ _ HOX.out)))
          go_wp2
          go_roundw
          case rel =>
            refine ⟨t + 1, m + 1, sn + 1, by omega, by omega, by omega, by go_num, by go_num, by go_num, ?_, ?_, R.out.drew _⟩
            · show _ = _
              rw [keep_succ inc L HC.out HBT.out, if_neg (by rw [HR.out]; decide), List.length_append, ← HM.out]; rfl
            · show _ = _
              rw [HDS.out, hd]; rfl
          case measure => simp [intOf]; omega
    · have htn : t = n := by omega
      subst htn
      have hmk : m = kl := by
        rw [HM.out, List.take_of_length_le (by rw [HN.out]; exact Nat.le_refl _), List.take_of_length_le (by rw [HBS.out]; exact Nat.le_refl _), HKL.out]
      subst hmk
      clear HM HSN ht hmt hsn
      go_wp2
      go_loopw [21] (fun jv wv => ∃ (j q : Nat), j ≤ m ∧ jv = .int .i64 j ∧ wv = wr.drewN q) (fun jv _ => m - (intOf jv).toNat)
      case atStart => exact ⟨0, 0, Nat.zero_le _, rfl, rfl⟩
      case round =>
        obtain ⟨j, q, hj, rfl, rfl⟩ := hrel
        by_cases hjm : j < m
        · obtain ⟨x, x1, x2⟩ := HL1.out.pair HN.out HBS.out (by rw [HKL.out]; exact hjm)
          have hneq := ptr_neq_same
          go_wp2
          go_quiet (fail)
          go_wp2
          go_roundw
          case rel => exact ⟨j + 1, q + nq, by omega, by go_num, by simp [World.drewN, Nat.add_assoc]⟩
          case measure => simp [intOf]; omega
        · have HLOT : Hid (Lot (wr.drewN q) sb (ob + 1) t wait (L + k) (ckKeep inc L cs bs) (ckKeep inc L cs (ckMark inc L cs))) := by
            have := (HL1.out.drew q).lot HBS.out hmax hL
            rw [HK.out] at this
            exact this
          have HRS : Hid (∀ c ∈ ckKeep inc L cs (ckMark inc L cs), ckRet inc (L + k) c = false) := by
            have := keep_ret inc cs L hL
            rw [HK.out] at this
            exact this
          have HL2 : Hid (L1 w ob (ob + 1) sb kb t inc wait L bs cs t (wr.drewN q)) := HL1.out.drew q
          go_wp2_with fail
          clear hjm hj HL1
          generalize wr.drewN q = w6 at HLOT HL2 ⊢
          refine (zmark_any sb (ob + 1) t (L + k) inc wait (ckKeep inc L cs bs) (ckKeep inc L cs (ckMark inc L cs)) w6 HLOT.out).mono ?_
          rintro e w7 ⟨rfl, hran⟩
          have HL3 : Hid (L1 w ob (ob + 1) sb kb t inc wait L bs cs t w7) := by
            have := again_of HLOT.out HRS.out hran
            rw [← HK.out] at this
            exact HL2.out.again (by omega) this
          have HSL : Hid (w7.heap[sb]? = some (slotObj (ob + 1) m t ((L + k : Nat) : Int) wait)) := by
            have := HL3.out.base.slot
            rw [HKL.out, HK.out] at this
            exact this
          clear hran HLOT HRS HL2
          go_wp2_with (first
            | (go_at_call 10; refine (late_any sb (ob + 1) m t ((L + k : Nat) : Int) wait _ HSL.out).mono ?_; rintro e w' ⟨rfl, hw⟩; obtain rfl := hw.symm)
            | (go_at_call 11; refine (waiting_any sb (ob + 1) m t ((L + k : Nat) : Int) wait _ HSL.out).mono ?_; rintro e w' ⟨rfl, hw⟩; obtain rfl := hw.symm)
            | (go_at_call 12; refine (held_any sb (ob + 1) m t ((L + k : Nat) : Int) wait _ HSL.out).mono ?_; rintro e w' ⟨rfl, hw⟩; obtain rfl := hw.symm))
          clear HSL
          go_loopw [23] (fun jv wv => ∃ (j q : Nat), j ≤ m ∧ jv = .int .i64 j ∧ wv = w7.drewN q) (fun jv _ => m - (intOf jv).toNat)
          case atStart => exact ⟨0, 0, Nat.zero_le _, rfl, rfl⟩
          case round =>
            obtain ⟨j, q, hj, rfl, rfl⟩ := hrel
            by_cases hjm : j < m
            · obtain ⟨x, x1, x2⟩ := HL3.out.pair HN.out HBS.out (by rw [HKL.out]; exact hjm)
              have hneq := ptr_neq_same
              go_wp2
              go_quiet (fail)
              go_wp2
              go_roundw
              case rel => exact ⟨j + 1, q + nq, by omega, by go_num, by simp [World.drewN, Nat.add_assoc]⟩
              case measure => simp [intOf]; omega
            · go_wp2
              go_loopw [24] (fun jv wv => ∃ (i : Nat), i ≤ t ∧ jv = .int .i64 i ∧ Hid (L1 w ob (ob + 1) sb kb t inc wait L bs cs t wv)) (fun jv _ => t - (intOf jv).toNat)
              case atStart => exact ⟨0, Nat.zero_le _, rfl, HL3.out.drew q⟩
              case round =>
                clear HL3
                obtain ⟨i, hi, rfl, HL3⟩ := hrel
                by_cases hit : i < t
                · obtain ⟨b, hb⟩ : ∃ b, bs[i]? = some b := ⟨_, List.getElem?_eq_getElem (by rw [HBS.out]; exact hit)⟩
                  obtain ⟨c, hc⟩ : ∃ c, (ckMark inc L cs)[i]? = some c := ⟨_, List.getElem?_eq_getElem (by rw [ckMark_length, HN.out]; exact hit)⟩
                  obtain ⟨A1, a1, a2, a3⟩ := HL3.out.base.arr1
                  have hob : wr.cell? ⟨ob, i, Option.none⟩ = some (.pointer (some ⟨b, 0, Option.none⟩)) := by
                    rw [cell_of a1]
                    simpa [ptr] using a3 i b hb
                  have hwant := HL3.out.want hit hc
                  have HOX : Hid (∀ q, (wr.drewN q).heap[b]? = some (chkObj c)) := fun _ => HL3.out.base.objs.at hb hc
                  clear hb hc a1 a2 a3
                  go_wp2
                  go_quiet ((go_at_call 16; exact Calls.quiet_of_same (outLate_any b c _ (HOX.out _))))
                  go_wp2
                  go_roundw
                  case rel => exact ⟨i + 1, by omega, by go_num, HL3.out.drew _⟩
                  case measure => simp [intOf]; omega
                · go_wp2
                  go_ret
                  exact ⟨rfl, HL3.out.base.below⟩

end Go.Proofs.Qxb6625896a.One
