/-
  THE WALK of zzMutualReachGroups.
-/
import Derived.Test.Qxb6626223aMat
namespace Go.Proofs.Qxb6626223a.MutualW
open Go.RowKit
open Go.Proofs.Qxb6626223a.Canon Go.Proofs.Qxb6626223a.Graph Go.Proofs.Qxb6626223a.PlainG
open Go.Proofs.Qxb6626223a.Frame Go.Proofs.Qxb6626223a.Order Go.Proofs.Qxb6626223a.Find Go.Proofs.Qxb6626223a.RowsS Go.Proofs.Qxb6626223a.Insert Go.Proofs.Qxb6626223a.Agents Go.Proofs.Qxb6626223a.Same Go.Proofs.Qxb6626223a.Nest Go.Proofs.Qxb6626223a.Index Go.Proofs.Qxb6626223a.Mat
set_option linter.unusedVariables false
set_option linter.unusedSimpArgs false

/-- The adjacency as it lies in memory. -/
def AdjAt (w wr : World) (g m : Nat) (A : List ByteArray) (E : List (ByteArray × ByteArray)) : Prop := ∃ Ls : List (List Nat), Nest w.heap.size wr 3 50 g m (Ls.map iv) ∧ AdjOf A E Ls

theorem AgentsOf.in {E : List (ByteArray × ByteArray)} {A : List ByteArray} (h : AgentsOf E A) : ∀ p ∈ E, p.1 ∈ A ∧ p.2 ∈ A := fun p hp => ⟨(h.2.1 _).2 ⟨p, hp, .inl rfl⟩, (h.2.1 _).2 ⟨p, hp, .inr rfl⟩⟩

theorem kept_from {w wr w2 : World} (h : Kept nothing w wr) (k : Kept (fun k => w.heap.size ≤ k) wr w2) : Kept nothing w w2 :=
  ⟨k.os.trans h.os, k.tape.trans h.tape, k.output.trans h.output, Nat.le_trans h.size k.size, fun i hi hs => (k.block i (Nat.lt_of_lt_of_le hi h.size) (by omega)).trans (h.block i hi hs)⟩
theorem iv_len (l : List Nat) : (iv l).length = l.length := by simp [iv]

/-- One more pair. -/
theorem AdjAt.push {w wr : World} {g m : Nat} {A : List ByteArray} {E : List (ByteArray × ByteArray)} (h : AdjAt w wr g m A E) (hA : A.Nodup) (hm : A.length = m) {x y : ByteArray} {i j : Nat} (hi : A[i]? = some x) (hj : A[j]? = some y) (hE : E.length ≤ 1048576) (hK : Kept nothing w wr) :
    ∃ ao len cap a2 n2 c2 w1, wr.cell? ⟨g, i, Option.none⟩ = some (.slice ao len cap) ∧ w1.cell? ⟨g, i, Option.none⟩ = some (.slice ao len cap) ∧ w1.frozen? ⟨g, i, Option.none⟩ = false ∧
      (Builtin.append_ #[50, 50] 50 #[.slice ao len cap, .slice (some ⟨wr.heap.size, 0, Option.none⟩) 1 1]).run Try.prog (wr.alloc (.cells #[.int .i64 (j : Int)] 3)) = .ok (.slice a2 n2 c2) w1 ∧
      AdjAt w (w1.setCell ⟨g, i, Option.none⟩ (.slice a2 n2 c2)) g m A (E ++ [(x, y)]) ∧ Kept nothing w (w1.setCell ⟨g, i, Option.none⟩ (.slice a2 n2 c2)) := by
  obtain ⟨Ls, h1, h2⟩ := h
  obtain ⟨l, hl⟩ : ∃ l, Ls[i]? = some l := ⟨_, List.getElem?_eq_getElem (by have := (List.getElem?_eq_some_iff.1 hi).1; rw [h2.1]; exact this)⟩
  obtain ⟨ao, cap, a2, n2, c2, w1, d1, d2, f1, hrun, hn, hk⟩ := h1.push (i := i) (l := iv l) (by rw [List.getElem?_map, hl]; rfl) 50 _ 8 Try.underlying50 info3 rfl (by decide) (.int .i64 (j : Int)) rfl (by rw [iv_len]; have := (h2.2 i l hl).1; omega)
  refine ⟨ao, _, cap, a2, n2, c2, w1, d1, d2, f1, hrun, ⟨Ls.set i (l ++ [j]), ?_, h2.step hA hi hj hl⟩, kept_from hK hk⟩
  rw [List.map_set, show iv (l ++ [j]) = iv l ++ [.int .i64 (j : Int)] from by simp [iv]]
  exact hn

theorem own_one (w : World) (e : TypeId) (x : Value) : (w.alloc (.cells #[x] e)).ownsRow 0 e 1 (.slice (some ⟨w.heap.size, 0, Option.none⟩) 1 1) 1 [x] :=
  ⟨rfl, .inr ⟨w.heap.size, 1, _, rfl, Nat.zero_le _, block_new _ _, Nat.le_refl _, by decide, rfl, rfl⟩⟩

theorem set_new (w : World) (X : Array Value) (t : TypeId) (o : Nat) (u : Value) : (w.alloc (.cells X t)).setCell ⟨w.heap.size, o, Option.none⟩ u = w.alloc (.cells (X.setIfInBounds o u) t) := by simp [go_sem]

/-- The search as it lies in memory. -/
def BfsAt (wr : World) (Ls : List (List Nat)) (m s gS : Nat) (vq : Value) (h : Nat) (Q : List Nat) : Prop :=
  Bfs (sI Ls) m s Q ∧ Past (sI Ls) Q h ∧ wr.ownsRow 0 3 1 vq Q.length (iv Q) ∧ BRow wr gS m (fun v => v ∈ Q)

theorem BfsAt.begin (w : World) (Ls : List (List Nat)) {m s : Nat} (hs : s < m) (hm : m ≤ maxLen) :
    BfsAt (((w.alloc (.cells (madeCells #[.bool false] m) 4)).setCell ⟨w.heap.size, s, Option.none⟩ (.bool true)).alloc (.cells #[.int .i64 (s : Int)] 3)) Ls m s w.heap.size (.slice (some ⟨w.heap.size + 1, 0, Option.none⟩) 1 1) 0 [s] := by
  have B1 := ((BRow.start w (n := m) hm).set hs).congr (P' := fun v => v ∈ [s]) (fun k _ => by simp)
  refine ⟨Bfs.begin _ hs, fun i u hi => by omega, ?_, ?_⟩
  · have := own_one ((w.alloc (.cells (madeCells #[.bool false] m) 4)).setCell ⟨w.heap.size, s, Option.none⟩ (.bool true)) 3 (.int .i64 (s : Int))
    simpa [iv] using this
  · exact B1.keep (S := nothing) ((Kept.refl _ _).alloc _) id

theorem BfsAt.push {w wr : World} {Ls : List (List Nat)} {m s gS : Nat} {vq : Value} {h : Nat} {Q : List Nat} (b : BfsAt wr Ls m s gS vq h Q) {u v : Nat} (hu : u ∈ Q) (hv : v ∈ sI Ls u) (hm : v < m) (hm2 : m ≤ 65536) (hnot : v ∉ Q) (hh : h ≤ Q.length) (hK : Kept nothing w wr) (hF : Fresh w vq) (hg : w.heap.size ≤ gS) :
    ∃ a2 n2 c2 w2, (Builtin.append_ #[50, 50] 50 #[vq, .slice (some ⟨wr.heap.size, 0, Option.none⟩) 1 1]).run Try.prog ((wr.setCell ⟨gS, v, Option.none⟩ (.bool true)).alloc (.cells #[.int .i64 (v : Int)] 3)) = .ok (.slice a2 n2 c2) w2 ∧
      BfsAt w2 Ls m s gS (.slice a2 n2 c2) h (Q ++ [v]) ∧ Kept nothing w w2 ∧ Fresh w (.slice a2 n2 c2) := by
  obtain ⟨b1, b2, b3, b4⟩ := b
  have kset : Kept (fun k => k = gS) wr (wr.setCell ⟨gS, v, Option.none⟩ (.bool true)) := Kept.setCell (S := fun k => k = gS) (p := ⟨gS, v, Option.none⟩) (Kept.refl _ _) (.inl rfl) _
  have b3' := ownsRow_keep b3 kset (fun k hk e => b4.apart b3 (by decide) (by rw [← e]; exact hk))
  have hq := b1.qlen
  obtain ⟨v', w2, hrun, o1, k1, on1⟩ := push_any 50 3 _ 8 Try.underlying50 info3 rfl (by decide) b3' (.int .i64 (v : Int)) rfl (by omega)
  have hsz : (wr.setCell ⟨gS, v, Option.none⟩ (.bool true)).heap.size = wr.heap.size := by simp
  obtain ⟨a2, c2, e2, _⟩ := own_at o1
  subst e2
  rw [hsz] at hrun
  have B5 := (b4.set hm).congr (P' := fun x => x ∈ Q ++ [v]) (fun k _ => by simp)
  refine ⟨a2, _, c2, w2, hrun, ⟨b1.add hu hv hm hnot, b2.grow hh v, ?_, B5.keep k1 (fun hk => B5.apart b3' (by decide) hk)⟩, ?_, ?_⟩
  · rw [show iv (Q ++ [v]) = iv Q ++ [.int .i64 (v : Int)] from by simp [iv], List.length_append]
    exact o1
  · exact (hK.setCell (p := ⟨gS, v, Option.none⟩) (.inr hg) _).fresh hF k1
  · refine hF.onward ?_ on1
    rw [hsz]
    exact hK.size

/-- Agents i and k are of one group. -/
def RelAt (A : List ByteArray) (rel : ByteArray → ByteArray → Prop) (i k : Nat) : Prop := ∃ a b, A[i]? = some a ∧ A[k]? = some b ∧ rel a b
/-- Agent k is of the group of one of the first i. -/
def Tk (A : List ByteArray) (rel : ByteArray → ByteArray → Prop) (i k : Nat) : Prop := ∃ i', i' < i ∧ RelAt A rel i' k

theorem tk_skip {A : List ByteArray} {rel : ByteArray → ByteArray → Prop} (o : Over A rel) {i : Nat} (h : Tk A rel i i) (k : Nat) : Tk A rel i k ↔ Tk A rel (i + 1) k := by
  constructor
  · rintro ⟨i', hi, h⟩
    exact ⟨i', by omega, h⟩
  · rintro ⟨i', hi, a, b, ha, hb, hr⟩
    by_cases e : i' = i
    · subst e
      obtain ⟨i2, hi2, c, d, hc, hd, hr2⟩ := h
      rw [ha] at hd
      cases hd
      exact ⟨i2, hi2, c, b, hc, hb, o.trans _ _ _ hr2 hr⟩
    · exact ⟨i', by omega, a, b, ha, hb, hr⟩
theorem tk_next {A : List ByteArray} {rel : ByteArray → ByteArray → Prop} (o : Over A rel) {i k : Nat} (hk : k < A.length) : (Tk A rel i k ∨ (i ≤ k ∧ k < A.length ∧ RelAt A rel i k)) ↔ Tk A rel (i + 1) k := by
  constructor
  · rintro (⟨i', hi, h⟩ | ⟨h1, _, h2⟩)
    · exact ⟨i', by omega, h⟩
    · exact ⟨i, by omega, h2⟩
  · rintro ⟨i', hi, h⟩
    by_cases e : i' = i
    · subst e
      by_cases hik : i' ≤ k
      · exact .inr ⟨hik, hk, h⟩
      · exact .inl ⟨k, by omega, _, _, List.getElem?_eq_getElem hk, List.getElem?_eq_getElem hk, o.refl _⟩
    · exact .inl ⟨i', by omega, h⟩
theorem gath_len (A : List ByteArray) (rel : ByteArray → ByteArray → Prop) (a : ByteArray) (i j : Nat) : (gath A rel a i j).length ≤ A.length := by
  unfold gath
  refine Nat.le_trans (List.length_filter_le _ _) ?_
  rw [List.length_drop, List.length_take]
  omega

set_option maxHeartbeats 800000 in
set_option maxRecDepth 100000 in
theorem mutual_any (ao : Option Addr) (n cap : Nat) (cs : List Q4) (w : World) (hH : Held w ao cs) (hl : cs.length = n) (hn : n ≤ 4096) :
    Calls Try.prog 9 #[.slice ao n cap] w fun e w' => ∃ v L, e = .returned v ∧ GroupsAt w' v L ∧ IsGroups slt (Mutual (pairs cs)) L ∧ Kept nothing w w' ∧ L.length ≤ 65536 ∧ ∀ l ∈ L, l.length ≤ 65536 := by
  have HH : Hid (Held w ao cs) := hH
  have HL : Hid (cs.length = n) := hl
  have AG := agents_any ao n cap cs w hH hl (by omega)
  clear hH hl
  go_enter Try.func9, Try.ntmps9
  go_wp2_with fail
  refine AG.mono ?_
  rintro e wA ⟨vA, A, rfl, oA, hA, kA, fA⟩
  clear AG
  obtain ⟨aA, cA, rfl, atA⟩ := own_shape oA
  have KA : Hid (Kept nothing w wA) := kA
  have HAG : Hid (AgentsOf (pairs cs) A) := hA
  have OA : Hid (OwnS wA (.slice aA A.length cA) A) := oA
  have AtA : Hid (At wA aA (strs A)) := atA
  have hm0 : A.length ≤ 8192 := by have := hA.2.2; rw [pairs_len, HL.out] at this; omega
  have HS : Hid (A.Pairwise slt) := hA.1
  have HND : Hid (A.Nodup) := sorted_nodup hA.1
  have HIN : Hid (∀ p ∈ pairs cs, p.1 ∈ A ∧ p.2 ∈ A) := AgentsOf.in hA
  clear oA hA kA fA atA
  obtain ⟨m, hm⟩ : ∃ m, A.length = m := ⟨_, rfl⟩
  have HM : Hid (A.length = m) := hm
  rw [hm] at hm0 OA ⊢
  clear hm
  have hmk1 := run_make_row' (P := Try.prog) 49 50 (.slice Option.none 0 0) 24 Try.underlying49 info50 rfl .i64 .i64 m (by omega) (by omega)
  have N0 : Hid (AdjAt wA (wA.alloc (.cells (madeCells #[.slice Option.none 0 0] m) 50)) wA.heap.size m A ((pairs cs).take 0)) := by
    refine ⟨List.replicate m [], ?_, by have := AdjOf.start A; rw [HM.out] at this; exact this⟩
    have := Nest.start wA (e := 3) (eo := 50) (by decide) (n := m) (by unfold maxLen; omega)
    simpa [iv] using this
  have K0 : Hid (Kept nothing wA (wA.alloc (.cells (madeCells #[.slice Option.none 0 0] m) 50))) := (Kept.refl _ _).alloc _
  go_wp2
  clear hmk1
  generalize wA.alloc (.cells (madeCells #[.slice Option.none 0 0] m) 50) = w1 at N0 K0 ⊢
  generalize hgA : wA.heap.size = gA at N0 ⊢
  go_loopw [6] (fun xv wr => ∃ i : Nat, i ≤ n ∧ xv = .int .i64 i ∧ Hid (Kept nothing wA wr) ∧ Hid (AdjAt wA wr gA m A ((pairs cs).take i))) (fun xv _ => n - (intOf xv).toNat)
  case atStart => exact ⟨0, Nat.zero_le _, by go_num, K0, N0⟩
  case round =>
    clear N0 K0
    obtain ⟨i, hi, rfl, HK, HN⟩ := hrel
    by_cases hlt : i < n
    · obtain ⟨c, hc⟩ : ∃ c, cs[i]? = some c := ⟨_, List.getElem?_eq_getElem (by rw [HL.out]; exact hlt)⟩
      obtain ⟨g, off, rfl, c0, c1, -, -⟩ := HH.out i c hc
      have hKW := KA.out.trans HK.out
      replace c0 := hKW.cell c0 id
      replace c1 := hKW.cell c1 id
      have hp := HIN.out (c.e, c.l) (by simp only [pairs, List.mem_map]; exact ⟨c, List.mem_of_getElem? hc, rfl⟩)
      have atr : At wr aA (strs A) := At.kept0 AtA.out HK.out
      have FD1 := find_any aA m cA A c.e wr atr HM.out (by omega) HS.out
      have HAT : Hid (At wr aA (strs A)) := atr
      have HPE : Hid (c.e ∈ A) := hp.1
      have HPL : Hid (c.l ∈ A) := hp.2
      have HTK : Hid ((pairs cs).take (i + 1) = (pairs cs).take i ++ [(c.e, c.l)]) := pairs_take hc
      clear hc hKW hp atr
      go_wp2_with fail
      refine FD1.mono ?_
      rintro e w' ⟨⟨k1, rfl, hp1⟩, hw⟩
      obtain rfl := hw.symm
      have e1 : A[k1]? = some c.e := place_of_mem HS.out HPE.out hp1
      have b1 : k1 < m := by have := (List.getElem?_eq_some_iff.1 e1).1; rw [HM.out] at this; exact this
      have HE1 : Hid (A[k1]? = some c.e) := e1
      clear FD1 hp1 e1 hw c0
      have FD2 := find_any aA m cA A c.l wr HAT.out HM.out (by omega) HS.out
      go_wp2_with fail
      refine FD2.mono ?_
      rintro e w' ⟨⟨k2, rfl, hp2⟩, hw⟩
      obtain rfl := hw.symm
      have e2 : A[k2]? = some c.l := place_of_mem HS.out HPL.out hp2
      clear FD2 hp2 hw c1
      obtain ⟨ax, lx, cx, a2, n2, c2, w2, d1, d2, f2, hrun, hadj, hkn⟩ := HN.out.push HND.out HM.out HE1.out e2 (by rw [List.length_take, pairs_len, HL.out]; omega) HK.out
      rw [← HTK.out] at hadj
      have HRUN : Hid ((Builtin.append_ #[50, 50] 50 #[.slice ax lx cx, .slice (some ⟨wr.heap.size, 0, Option.none⟩) 1 1]).run Try.prog (wr.alloc (.cells #[.int .i64 (k2 : Int)] 3)) = .ok (.slice a2 n2 c2) w2) := hrun
      have HN2 : Hid (AdjAt wA (w2.setCell ⟨gA, k1, Option.none⟩ (.slice a2 n2 c2)) gA m A ((pairs cs).take (i + 1))) := hadj
      have HK2 : Hid (Kept nothing wA (w2.setCell ⟨gA, k1, Option.none⟩ (.slice a2 n2 c2))) := hkn
      clear hrun hadj hkn HN HK e2
      go_wp2_with (at_builtin; refine wpList_append_run _ rfl (.tmp 53) (.tmp 55) 50 50 rfl _ _ _ w2 rfl rfl HRUN.out ?_)
      go_roundw
      case rel => exact ⟨i + 1, by omega, by go_num, HK2, HN2⟩
      case measure => simp [intOf]; omega
    · obtain rfl : i = n := by omega
      obtain ⟨Ls, nb, aj⟩ := HN.out
      rw [List.take_of_length_le (by rw [pairs_len, HL.out]; exact Nat.le_refl _)] at aj
      have AJ : Hid (AdjOf A (pairs cs) Ls) := aj
      have NB : Hid (Nest wA.heap.size wr 3 50 gA m (Ls.map iv)) := nb
      have LL : Hid (Ls.length = m) := aj.1.trans HM.out
      have KB : Hid (Kept nothing wA wr) := HK.out
      clear nb aj HN HK hlt
      generalize wr = wB at *
      have hmk2 := run_make_row' (P := Try.prog) 51 52 (.slice Option.none 0 0) 24 Try.underlying51 info52 rfl .i64 .i64 m (by omega) (by omega)
      have M0 : Hid (Mat (wB.alloc (.cells (madeCells #[.slice Option.none 0 0] m) 52)) wB.heap.size m 0 (Tarjan.Reach (sI Ls))) := Mat.start wB (by unfold maxLen; omega) _
      have K0 : Hid (Kept nothing wB (wB.alloc (.cells (madeCells #[.slice Option.none 0 0] m) 52))) := (Kept.refl _ _).alloc _
      go_wp2
      clear hmk2
      generalize wB.alloc (.cells (madeCells #[.slice Option.none 0 0] m) 52) = w1 at M0 K0 ⊢
      generalize hgR : wB.heap.size = gR at M0 ⊢
      go_loopw [10] (fun xv wr => ∃ s : Nat, s ≤ m ∧ xv = .int .i64 s ∧ Hid (Kept nothing wB wr) ∧ Hid (Mat wr gR m s (Tarjan.Reach (sI Ls)))) (fun xv _ => m - (intOf xv).toNat)
      case atStart => exact ⟨0, Nat.zero_le _, by go_num, K0, M0⟩
      case round =>
        clear M0 K0
        obtain ⟨s, hs, rfl, HK, HMat⟩ := hrel
        by_cases hlt : s < m
        · have hmk3 := run_make_row' (P := Try.prog) 52 4 (.bool false) 1 Try.underlying52 info4 rfl .i64 .i64 m (by omega) (by omega)
          obtain ⟨c0, f0⟩ := (BRow.start wr (n := m) (by unfold maxLen; omega)).cell hlt
          rw [tb_false id] at c0
          have BA : Hid (BfsAt ((wr.alloc (.cells ((madeCells #[.bool false] m).setIfInBounds s (.bool true)) 4)).alloc (.cells #[.int .i64 (s : Int)] 3)) Ls m s wr.heap.size (.slice (some ⟨wr.heap.size + 1, 0, Option.none⟩) 1 1) 0 [s]) := set_new wr _ _ _ _ ▸ BfsAt.begin wr Ls hlt (by unfold maxLen; omega)
          have KT : Hid (Kept nothing wr ((wr.alloc (.cells ((madeCells #[.bool false] m).setIfInBounds s (.bool true)) 4)).alloc (.cells #[.int .i64 (s : Int)] 3))) := ((Kept.refl _ _).alloc _).alloc _
          have FT : Hid (Fresh wr (.slice (some ⟨wr.heap.size + 1, 0, Option.none⟩) 1 1)) := fun k hk => by simp [Value.ownBlock] at hk; omega
          have HMT : Hid (Mat wr gR m s (Tarjan.Reach (sI Ls))) := HMat.out
          have HKT : Hid (Kept nothing wB wr) := HK.out
          clear HMat HK
          go_wp2
          clear hmk3 c0 f0
          generalize (wr.alloc (.cells ((madeCells #[.bool false] m).setIfInBounds s (.bool true)) 4)).alloc (.cells #[.int .i64 (s : Int)] 3) = w3 at BA KT ⊢
          generalize wr = wT at *
          have GS : Hid (∃ gS, gS = wT.heap.size) := ⟨_, rfl⟩
          generalize hgS : wT.heap.size = gS at BA ⊢
          have HGS : Hid (wT.heap.size ≤ gS) := by rw [hgS]; exact Nat.le_refl _
          generalize hv0 : Value.slice (some ⟨gS + 1, 0, Option.none⟩) 1 1 = v0 at BA ⊢
          have FT' : Hid (Fresh wT v0) := by rw [← hv0, ← hgS]; exact FT.out
          clear FT hv0 GS hgS
          go_loopw [12, 13] (fun qv hv wr => ∃ (vq : Value) (h : Nat), vq = qv ∧ hv = .int .i64 h ∧ h ≤ m ∧ Hid (∃ Q, BfsAt wr Ls m s gS vq h Q ∧ h ≤ Q.length) ∧ Hid (Kept nothing wT wr) ∧ Hid (Fresh wT vq)) (fun _ hv _ => m - (intOf hv).toNat)
          case atStart => exact ⟨_, 0, rfl, by go_num, Nat.zero_le _, ⟨_, BA.out, Nat.zero_le _⟩, KT, FT'⟩
          case round =>
            clear BA KT FT'
            obtain ⟨vq, h, rfl, rfl, hh, HB, HK, HF⟩ := hrel
            obtain ⟨Q, bq, hq⟩ := HB.out
            obtain ⟨aq, cq, rfl, _, _, atq, _⟩ := own_at bq.2.2.1
            have hQm := bq.1.qlen
            have ATQ : Hid (At wr aq (iv Q)) := atq
            have HBQ : Hid (BfsAt wr Ls m s gS (.slice aq Q.length cq) h Q) := bq
            obtain ⟨ql, hql⟩ : ∃ ql, Q.length = ql := ⟨_, rfl⟩
            have HQL : Hid (Q.length = ql) := hql
            rw [hql] at hq hQm HBQ HF ⊢
            clear HB bq atq hql
            by_cases hlt2 : h < ql
            · obtain ⟨u, hu⟩ : ∃ u, Q[h]? = some u := ⟨_, List.getElem?_eq_getElem (by rw [HQL.out]; exact hlt2)⟩
              obtain ⟨gq, oq, rfl, dq⟩ := ATQ.out h (.int .i64 (u : Int)) (by simp [iv, hu])
              have hum : u < m := HBQ.out.1.lt u (List.mem_of_getElem? hu)
              obtain ⟨lu, hlu⟩ : ∃ lu, Ls[u]? = some lu := ⟨_, List.getElem?_eq_getElem (by rw [LL.out]; exact hum)⟩
              have hsi : sI Ls u = lu := by unfold sI; rw [hlu]; rfl
              have HSI : Hid (sI Ls u = lu) := hsi
              obtain ⟨al, cl, d1, at1⟩ := NB.out.read (i := u) (l := iv lu) (by rw [List.getElem?_map, hlu]; rfl)
              rw [iv_len] at d1
              have HD1 : Hid (wB.cell? ⟨gA, u, Option.none⟩ = some (.slice al lu.length cl)) := d1
              have HA1 : Hid (At wB al (iv lu)) := at1
              obtain ⟨kl, hkl⟩ : ∃ kl, lu.length = kl := ⟨_, rfl⟩
              have HKL : Hid (lu.length = kl) := hkl
              have klb : kl ≤ 4096 := by have := (AJ.out.2 u lu hlu).1; rw [pairs_len, HL.out] at this; omega
              have HVM : Hid (∀ v ∈ lu, v < m) := fun v hv => by
                rw [← hsi] at hv
                obtain ⟨a, b, _, hb, _⟩ := AJ.out.mem.1 hv
                have := (List.getElem?_eq_some_iff.1 hb).1
                rw [HM.out] at this
                exact this
              have BQ0 : Hid (∃ Q, BfsAt wr Ls m s gS (.slice (some ⟨gq, oq, Option.none⟩) ql cq) h Q ∧ h < Q.length ∧ Q[h]? = some u ∧ ∀ (k' v : Nat), k' < 0 → lu[k']? = some v → v ∈ Q) := ⟨Q, HBQ.out, by rw [HQL.out]; exact hlt2, hu, fun k' v hk => by omega⟩
              rw [hkl] at HD1
              clear hu hlu hsi d1 at1 hkl ATQ HBQ HQL
              go_wp2
              clear dq
              generalize Value.slice (some ⟨gq, oq, Option.none⟩) ql cq = v0 at HF BQ0 ⊢
              go_loopw [12, 15] (fun qv kv wr => ∃ (vq : Value) (k : Nat), vq = qv ∧ kv = .int .i64 k ∧ k ≤ kl ∧ Hid (∃ Q, BfsAt wr Ls m s gS vq h Q ∧ h < Q.length ∧ Q[h]? = some u ∧ ∀ (k' v : Nat), k' < k → lu[k']? = some v → v ∈ Q) ∧ Hid (Kept nothing wT wr) ∧ Hid (Fresh wT vq)) (fun _ kv _ => kl - (intOf kv).toNat)
              case atStart => exact ⟨_, 0, rfl, by go_num, Nat.zero_le _, BQ0, HK, HF⟩
              case round =>
                clear BQ0 HF HK hq hlt2 hQm
                obtain ⟨vq, k, rfl, rfl, hk, HB, HK, HF⟩ := hrel
                have KW := HKT.out.trans HK.out
                have d1 := KW.cell HD1.out id
                by_cases hlt3 : k < kl
                · obtain ⟨v, hv⟩ : ∃ v, lu[k]? = some v := ⟨_, List.getElem?_eq_getElem (by rw [HKL.out]; exact hlt3)⟩
                  obtain ⟨gl, ol, rfl, d2⟩ := HA1.out k (.int .i64 (v : Int)) (by simp [iv, hv])
                  replace d2 := KW.cell d2 id
                  have hvm := HVM.out v (List.mem_of_getElem? hv)
                  obtain ⟨Q, bq, q1, q2, q3⟩ := HB.out
                  obtain ⟨d3, f3⟩ := bq.2.2.2.cell hvm
                  by_cases hin : v ∈ Q
                  · rw [tb_true hin] at d3
                    have HB2 : Hid (∃ Q, BfsAt wr Ls m s gS vq h Q ∧ h < Q.length ∧ Q[h]? = some u ∧ ∀ (k' v : Nat), k' < k + 1 → lu[k']? = some v → v ∈ Q) := ⟨Q, bq, q1, q2, fun k' x hk' hx => by
                      by_cases e : k' = k
                      · subst e; rw [hv] at hx; cases hx; exact hin
                      · exact q3 k' x (by omega) hx⟩
                    clear hv bq q1 q2 q3 hin HB KW
                    go_wp2
                    go_roundw
                    case rel => exact ⟨_, k + 1, rfl, by go_num, by omega, HB2, HK, HF⟩
                    case measure => simp [intOf]; omega
                  · rw [tb_false hin] at d3
                    obtain ⟨a2, n2, c2, w2, hrun, bq2, k2, f2⟩ := bq.push (List.mem_of_getElem? q2) (v := v) (by rw [HSI.out]; exact List.mem_of_getElem? hv) hvm (by omega) hin (by omega) HK.out HF.out HGS.out
                    have HRUN : Hid ((Builtin.append_ #[50, 50] 50 #[vq, .slice (some ⟨wr.heap.size, 0, Option.none⟩) 1 1]).run Try.prog ((wr.setCell ⟨gS, v, Option.none⟩ (.bool true)).alloc (.cells #[.int .i64 (v : Int)] 3)) = .ok (.slice a2 n2 c2) w2) := hrun
                    have HB2 : Hid (∃ Q, BfsAt w2 Ls m s gS (.slice a2 n2 c2) h Q ∧ h < Q.length ∧ Q[h]? = some u ∧ ∀ (k' v : Nat), k' < k + 1 → lu[k']? = some v → v ∈ Q) := ⟨_, bq2, by simp; omega, by rw [List.getElem?_append_left q1]; exact q2, fun k' x hk' hx => by
                      by_cases e : k' = k
                      · subst e; rw [hv] at hx; cases hx; simp
                      · exact List.mem_append.2 (.inl (q3 k' x (by omega) hx))⟩
                    have HK2 : Hid (Kept nothing wT w2) := k2
                    have HF2 : Hid (Fresh wT (.slice a2 n2 c2)) := f2
                    clear hv bq q1 q2 q3 hin HB KW hrun bq2 k2 f2 HK HF
                    go_wp2_with (at_builtin; refine wpList_append_run _ rfl (.tmp 106) (.tmp 108) 50 50 rfl _ _ _ w2 rfl rfl HRUN.out ?_)
                    go_roundw
                    case rel => exact ⟨_, k + 1, rfl, by go_num, by omega, HB2, HK2, HF2⟩
                    case measure => simp [intOf]; omega
                · obtain rfl : k = kl := by omega
                  have HB2 : Hid (∃ Q, BfsAt wr Ls m s gS vq (h + 1) Q ∧ h + 1 ≤ Q.length) := by
                    obtain ⟨Q, bq, q1, q2, q3⟩ := HB.out
                    refine ⟨Q, ⟨bq.1, bq.2.1.next q2 (fun v hv => ?_), bq.2.2.1, bq.2.2.2⟩, q1⟩
                    rw [HSI.out] at hv
                    obtain ⟨k', hk'⟩ := List.getElem?_of_mem hv
                    exact q3 k' v (by have := (List.getElem?_eq_some_iff.1 hk').1; rw [HKL.out] at this; exact this) hk'
                  have hm2 : h + 1 ≤ m := by
                    obtain ⟨Q, bq, q1⟩ := HB2.out
                    have := bq.1.qlen
                    omega
                  clear HB KW
                  go_wp2
                  go_roundw
                  case rel => exact ⟨_, h + 1, rfl, by go_num, hm2, HB2, HK, HF⟩
                  case measure => simp [intOf]; omega
            · obtain rfl : h = ql := by omega
              obtain ⟨u0, c0, f0⟩ := (HMT.out.kept HK.out).old hlt
              have HM2 : Hid (Mat (wr.setCell ⟨gR, s, Option.none⟩ (.slice (some ⟨gS, 0, Option.none⟩) m m)) gR m (s + 1) (Tarjan.Reach (sI Ls))) := HMT.out.step HK.out hlt HBQ.out.2.2.2 (fun j _ => HBQ.out.1.end (by have := HBQ.out.2.1; rw [HQL.out]; exact this) j) HGS.out
              have HK2 : Hid (Kept nothing wB (wr.setCell ⟨gR, s, Option.none⟩ (.slice (some ⟨gS, 0, Option.none⟩) m m))) := (HKT.out.trans HK.out).setCell (.inr (by rw [hgR]; exact Nat.le_refl _)) _
              clear HBQ ATQ HMT HK
              go_wp2
              go_roundw
              case rel => exact ⟨s + 1, by omega, by go_num, HK2, HM2⟩
              case measure => simp [intOf]; omega
        · obtain rfl : s = m := by omega
          have OV : Hid (Over A (Mutual (pairs cs))) := over_mutual HIN.out
          have HMC : Hid (Mat wr gR s s (Tarjan.Reach (sI Ls))) := HMat.out
          have HKC : Hid (Kept nothing wB wr) := HK.out
          clear HMat HK hlt
          generalize wr = wC at *
          have hmk4 := run_make_row' (P := Try.prog) 52 4 (.bool false) 1 Try.underlying52 info4 rfl .i64 .i64 s (by omega) (by omega)
          have T0 : Hid (BRow (wC.alloc (.cells (madeCells #[.bool false] s) 4)) wC.heap.size s (Tk A (Mutual (pairs cs)) 0)) := (BRow.start wC (n := s) (by unfold maxLen; omega)).congr fun k _ => ⟨False.elim, fun ⟨i', h, _⟩ => by omega⟩
          have K0 : Hid (Kept nothing wC (wC.alloc (.cells (madeCells #[.bool false] s) 4))) := (Kept.refl _ _).alloc _
          go_wp2
          clear hmk4
          generalize wC.alloc (.cells (madeCells #[.bool false] s) 4) = w4 at T0 K0 ⊢
          generalize hgT : wC.heap.size = gT at T0 ⊢
          have HGT : Hid (wC.heap.size ≤ gT) := by rw [hgT]; exact Nat.le_refl _
          go_loopw [18, 19] (fun gv xv wr => ∃ (vg : Value) (x : Nat), vg = gv ∧ xv = .int .i64 x ∧ x ≤ s ∧ Hid (∃ L, GInv slt A (Mutual (pairs cs)) x L ∧ L.length ≤ x ∧ (∀ l ∈ L, l.length ≤ s) ∧ Grp wr vg L) ∧ Hid (Fresh wC vg) ∧ Hid (Kept nothing wC wr) ∧ Hid (BRow wr gT s (Tk A (Mutual (pairs cs)) x))) (fun _ xv _ => s - (intOf xv).toNat)
          case atStart => exact ⟨_, 0, rfl, by go_num, Nat.zero_le _, ⟨[], GInv.start A, Nat.le_refl _, by simp, Grp.start _⟩, fresh_nil _, K0, T0⟩
          case round =>
            clear T0 K0 hgT
            obtain ⟨vg, x, rfl, rfl, hx, HG, HF, HK, HT⟩ := hrel
            by_cases hlt : x < s
            · obtain ⟨a, ha⟩ : ∃ a, A[x]? = some a := ⟨_, List.getElem?_eq_getElem (by rw [HM.out]; exact hlt)⟩
              obtain ⟨c0, f0⟩ := HT.out.cell hlt
              by_cases htk : Tk A (Mutual (pairs cs)) x x
              · rw [tb_true htk] at c0
                have HG2 : Hid (∃ L, GInv slt A (Mutual (pairs cs)) (x + 1) L ∧ L.length ≤ x + 1 ∧ (∀ l ∈ L, l.length ≤ s) ∧ Grp wr vg L) := by
                  obtain ⟨L, g1, g2, g3, g4⟩ := HG.out
                  refine ⟨L, g1.skip slt_irr HS.out OV.out ha ?_, by omega, g3, g4⟩
                  obtain ⟨i', h1, b, d, hb, hd, hr⟩ := htk
                  rw [ha] at hd
                  cases hd
                  exact ⟨i', b, h1, hb, hr⟩
                have HT2 : Hid (BRow wr gT s (Tk A (Mutual (pairs cs)) (x + 1))) := HT.out.congr fun k _ => tk_skip OV.out htk k
                clear HG HT htk ha
                go_wp2
                go_roundw
                case rel => exact ⟨_, x + 1, rfl, by go_num, by omega, HG2, HF, HK, HT2⟩
                case measure => simp [intOf]; omega
              · rw [tb_false htk] at c0
                have HFU := gath_full OV.out ha (fun k b hk hb hr => htk ⟨k, hk, b, a, hb, ha, hr⟩) HS.out
                have HFF : Hid ((∀ z, z ∈ gath A (Mutual (pairs cs)) a x A.length ↔ Mutual (pairs cs) a z) ∧ (gath A (Mutual (pairs cs)) a x A.length).Pairwise slt ∧ ∃ t, gath A (Mutual (pairs cs)) a x A.length = a :: t) := HFU
                have HA0 : Hid (A[x]? = some a) := ha
                have HTT : Hid (BRow wr gT s fun k => Tk A (Mutual (pairs cs)) x k ∨ (x ≤ k ∧ k < x ∧ RelAt A (Mutual (pairs cs)) x k)) := HT.out.congr fun k _ => ⟨.inl, fun h => h.elim id fun h => by omega⟩
                have HOB : Hid (∃ B, wr.heap[gT]? = some (.cells B 4 (0, 0))) := HT.out.obj
                have HGW : Hid (∃ L, GInv slt A (Mutual (pairs cs)) x L ∧ L.length ≤ x ∧ (∀ l ∈ L, l.length ≤ s) ∧ Grp wr vg L) := HG.out
                have HKW : Hid (Kept nothing wC wr) := HK.out
                clear HFU ha htk HT HG HK
                go_wp2
                clear c0 f0
                generalize wr = wT at *
                go_loopw [20, 21] (fun pv jv wr => ∃ (vp : Value) (j : Nat), vp = pv ∧ jv = .int .i64 j ∧ x ≤ j ∧ j ≤ s ∧ Hid (OwnS wr vp (gath A (Mutual (pairs cs)) a x j)) ∧ Hid (Fresh wT vp) ∧ Hid (Kept (fun k => k = gT) wT wr) ∧ Hid (BRow wr gT s fun k => Tk A (Mutual (pairs cs)) x k ∨ (x ≤ k ∧ k < j ∧ RelAt A (Mutual (pairs cs)) x k))) (fun _ jv _ => s - (intOf jv).toNat)
                case atStart => exact ⟨_, x, rfl, by go_num, Nat.le_refl _, hx, by rw [gath_start]; exact World.ownsRow_nil _ _ _ _, fresh_nil _, Kept.refl _ _, HTT⟩
                case round =>
                  clear HTT
                  obtain ⟨vp, j, rfl, rfl, hxj, hjs, HO, HFp, HKp, HT⟩ := hrel
                  have KW : Hid (Kept nothing wC wr) := kept_from HKW.out (HKp.out.mono fun k _ e => by rw [e]; exact HGT.out)
                  by_cases hlt2 : j < s
                  · obtain ⟨b, hb⟩ : ∃ b, A[j]? = some b := ⟨_, List.getElem?_eq_getElem (by rw [HM.out]; exact hlt2)⟩
                    obtain ⟨bi, m1, m2⟩ := HMC.out.cell (i := x) hlt hlt
                    obtain ⟨bj, m3, m4⟩ := HMC.out.cell (i := j) hlt2 hlt2
                    replace m2 := KW.out.cell (m2 j hlt2) id
                    replace m4 := KW.out.cell (m4 x hlt) id
                    replace m1 := KW.out.cell m1 id
                    replace m3 := KW.out.cell m3 id
                    have e1 := AJ.out.reach HND.out HIN.out HA0.out hb
                    have e2 := AJ.out.reach HND.out HIN.out hb HA0.out
                    obtain ⟨ga, oa, rfl, d5⟩ := AtA.out j (.string b) (by simp [strs, hb])
                    have gne : ga ≠ gT := by
                      have h1 : ga < wA.heap.size := lt_of_cell d5
                      have h2 := (KB.out.trans HKC.out).size
                      have h3 := HGT.out
                      omega
                    replace d5 := (KB.out.trans (HKC.out.trans KW.out)).cell d5 id
                    by_cases hr : Mutual (pairs cs) a b
                    · rw [tb_true (e1.2 hr.1)] at m2
                      rw [tb_true (e2.2 hr.2)] at m4
                      obtain ⟨c6, f6⟩ := HT.out.cell hlt2
                      have d6 : (wr.setCell ⟨gT, j, Option.none⟩ (.bool true)).cell? ⟨ga, oa + j, Option.none⟩ = some (.string b) := by rw [cell_set_ne _ _ _ gne]; exact d5
                      have kset : Kept (fun k => k = gT) wr (wr.setCell ⟨gT, j, Option.none⟩ (.bool true)) := Kept.setCell (S := fun k => k = gT) (p := ⟨gT, j, Option.none⟩) (Kept.refl _ _) (.inl rfl) _
                      have o5 := ownsRow_keep HO.out kset (fun k hk e => HT.out.apart HO.out (by decide) (by rw [← e]; exact hk))
                      obtain ⟨v2, w2, hrun, o2, k2, on2⟩ := push_s (w := wr.setCell ⟨gT, j, Option.none⟩ (.bool true)) (v := vp) (l := gath A (Mutual (pairs cs)) a x j) o5 b (by have := gath_len A (Mutual (pairs cs)) a x j; rw [HM.out] at this; omega)
                      rw [World.size_setCell] at hrun
                      have HRUN : Hid ((Builtin.append_ #[34, 34] 34 #[vp, .slice (some ⟨wr.heap.size, 0, Option.none⟩) 1 1]).run Try.prog ((wr.setCell ⟨gT, j, Option.none⟩ (.bool true)).alloc (.cells #[.string b] 9)) = .ok v2 w2) := hrun
                      rw [← gath_in hxj hb hr] at o2
                      have HO2 : Hid (OwnS w2 v2 (gath A (Mutual (pairs cs)) a x (j + 1))) := o2
                      have HF2 : Hid (Fresh wT v2) := HFp.out.onward (by rw [World.size_setCell]; exact HKp.out.size) on2
                      have HK2 : Hid (Kept (fun k => k = gT) wT w2) := (HKp.out.trans kset).fresh HFp.out k2
                      have B5 := HT.out.set hlt2
                      have HT2 : Hid (BRow w2 gT s fun k => Tk A (Mutual (pairs cs)) x k ∨ (x ≤ k ∧ k < j + 1 ∧ RelAt A (Mutual (pairs cs)) x k)) := (B5.keep k2 (fun hk => B5.apart o5 (by decide) hk)).congr fun k hk => by
                        constructor
                        · rintro ((h | ⟨h1, h2, h3⟩) | h)
                          · exact .inl h
                          · exact .inr ⟨h1, by omega, h3⟩
                          · exact .inr ⟨by omega, by omega, a, b, HA0.out, by rw [h]; exact hb, hr⟩
                        · rintro (h | ⟨h1, h2, h3⟩)
                          · exact .inl (.inl h)
                          · by_cases e : k = j
                            · exact .inr e
                            · exact .inl (.inr ⟨h1, by omega, h3⟩)
                      clear hb e1 e2 hr kset o5 hrun o2 k2 on2 B5 HO HFp HKp HT KW
                      go_wp2_with (at_builtin; refine wpList_append_run _ rfl (.tmp 150) (.tmp 155) 34 34 rfl _ _ _ w2 rfl rfl HRUN.out ?_)
                      go_roundw
                      case rel => exact ⟨_, j + 1, rfl, by go_num, by omega, by omega, HO2, HF2, HK2, HT2⟩
                      case measure => simp [intOf]; omega
                    · have HO2 : Hid (OwnS wr vp (gath A (Mutual (pairs cs)) a x (j + 1))) := by
                        show OwnS wr vp _
                        rw [gath_out hxj hb hr]
                        exact HO.out
                      have HT2 : Hid (BRow wr gT s fun k => Tk A (Mutual (pairs cs)) x k ∨ (x ≤ k ∧ k < j + 1 ∧ RelAt A (Mutual (pairs cs)) x k)) := HT.out.congr fun k hk => by
                        constructor
                        · rintro (h | ⟨h1, h2, h3⟩)
                          · exact .inl h
                          · exact .inr ⟨h1, by omega, h3⟩
                        · rintro (h | ⟨h1, h2, h3⟩)
                          · exact .inl h
                          · by_cases e : k = j
                            · subst e
                              obtain ⟨a', b', ha', hb', hr'⟩ := h3
                              rw [HA0.out] at ha'
                              rw [hb] at hb'
                              cases ha'
                              cases hb'
                              exact absurd hr' hr
                            · exact .inr ⟨h1, by omega, h3⟩
                      by_cases hr1 : Tarjan.Reach (sI Ls) x j
                      · have hr2 : ¬ Tarjan.Reach (sI Ls) j x := fun h => hr ⟨e1.1 hr1, e2.1 h⟩
                        rw [tb_true hr1] at m2
                        rw [tb_false hr2] at m4
                        clear hb e1 e2 hr hr1 hr2 HO HT KW
                        go_wp2
                        go_roundw
                        case rel => exact ⟨_, j + 1, rfl, by go_num, by omega, by omega, HO2, HFp, HKp, HT2⟩
                        case measure => simp [intOf]; omega
                      · rw [tb_false hr1] at m2
                        clear hb e1 e2 hr hr1 m4 m3 HO HT KW
                        go_wp2
                        go_roundw
                        case rel => exact ⟨_, j + 1, rfl, by go_num, by omega, by omega, HO2, HFp, HKp, HT2⟩
                        case measure => simp [intOf]; omega
                  · obtain rfl : j = s := by omega
                    have HT2 : Hid (BRow wr gT j (Tk A (Mutual (pairs cs)) (x + 1))) := HT.out.congr fun k hk => by
                      have := tk_next OV.out (i := x) (k := k) (by rw [HM.out]; exact hk)
                      rw [HM.out] at this
                      exact this
                    have hO := HO.out
                    obtain ⟨ap, cp, rfl, _⟩ := own_shape hO
                    obtain ⟨L, g1, g2, g3, g4⟩ := HGW.out
                    have G4 : Grp wr vg L := g4.kept HKp.out (fun k B t hk hB => by
                      subst hk
                      obtain ⟨B', hB'⟩ := HOB.out
                      rw [hB'] at hB
                      simp at hB
                      obtain ⟨_, rfl⟩ := hB
                      decide)
                    have hFU := HFF.out
                    rw [HM.out] at hFU
                    have hgl := gath_len A (Mutual (pairs cs)) a x j
                    rw [HM.out] at hgl
                    have HGL : Hid ((gath A (Mutual (pairs cs)) a x j).length ≤ j) := hgl
                    by_cases hlen : 1 < (gath A (Mutual (pairs cs)) a x j).length
                    · obtain ⟨v2, w2, hrun, G5, k2, on2⟩ := G4.push hO (by omega)
                      obtain ⟨gl, hgl2⟩ : ∃ gl, (gath A (Mutual (pairs cs)) a x j).length = gl := ⟨_, rfl⟩
                      rw [hgl2] at hrun hlen hgl ⊢
                      have HRUN : Hid ((Builtin.append_ #[26, 26] 26 #[vg, .slice (some ⟨wr.heap.size, 0, Option.none⟩) 1 1]).run Try.prog (wr.alloc (.cells #[.slice ap gl cp] 34)) = .ok v2 w2) := hrun
                      have HG2 : Hid (∃ L, GInv slt A (Mutual (pairs cs)) (x + 1) L ∧ L.length ≤ x + 1 ∧ (∀ l ∈ L, l.length ≤ j) ∧ Grp w2 v2 L) := ⟨_, g1.add HS.out HA0.out hFU.1 OV.out (by rw [hgl2]; exact hlen) hFU.2.1 hFU.2.2, by simp; omega, fun l hl => by
                        rcases List.mem_append.1 hl with hl | hl
                        · exact g3 l hl
                        · rw [List.mem_singleton.1 hl]; exact HGL.out, G5⟩
                      have HF2 : Hid (Fresh wC v2) := HF.out.onward KW.out.size on2
                      have HK2 : Hid (Kept nothing wC w2) := KW.out.fresh HF.out k2
                      have HT3 : Hid (BRow w2 gT j (Tk A (Mutual (pairs cs)) (x + 1))) := HT2.out.keep k2 (fun hk => by
                        obtain ⟨gs, q1, _⟩ := G4
                        exact HT2.out.apart q1 (by decide) hk)
                      have hlen' : (1 : Int) < (gl : Int) := by omega
                      clear hO g1 g2 g3 g4 G4 hFU hgl2 hrun G5 k2 on2 HO HFp HKp HT HT2 HF KW HGW HGL HFF
                      go_wp2_with (at_builtin; refine wpList_append_run _ rfl (.tmp 160) (.tmp 162) 26 26 rfl _ _ _ w2 rfl rfl HRUN.out ?_)
                      go_roundw
                      case rel => exact ⟨_, x + 1, rfl, by go_num, by omega, HG2, HF2, HK2, HT3⟩
                      case measure => simp [intOf]; omega
                    · have HG2 : Hid (∃ L, GInv slt A (Mutual (pairs cs)) (x + 1) L ∧ L.length ≤ x + 1 ∧ (∀ l ∈ L, l.length ≤ j) ∧ Grp wr vg L) := ⟨L, g1.alone HA0.out hFU.1 OV.out hlen, by omega, g3, G4⟩
                      obtain ⟨gl, hgl2⟩ : ∃ gl, (gath A (Mutual (pairs cs)) a x j).length = gl := ⟨_, rfl⟩
                      rw [hgl2] at hlen ⊢
                      clear hO g1 g2 g3 g4 G4 hFU hgl hgl2 HO HFp HKp HT HGW HGL HFF
                      go_wp2
                      go_roundw
                      case rel => exact ⟨_, x + 1, rfl, by go_num, by omega, HG2, HF, KW, HT2⟩
                      case measure => simp [intOf]; omega
            · obtain rfl : x = s := by omega
              go_wp2
              go_ret
              obtain ⟨L, g1, g2, g3, g4⟩ := HG.out
              exact ⟨_, L, rfl, g4.at, GInv.done OV.out (by rw [HM.out]; exact g1), KA.out.trans (KB.out.trans (HKC.out.trans HK.out)), by omega, fun l hl => by have := g3 l hl; omega⟩

end Go.Proofs.Qxb6626223a.MutualW
