/-
  THE WALK of the law FnCyclesTransposeAndUndirected.
-/
import Derived.Test.Qxb6626223aOneWalk
import Derived.Test.Qxb6626223aUndir
namespace Go.Proofs.Qxb6626223a.TwoW
open Go.RowKit
open Go.Proofs.Qxb6626223a.Tarjan (upd upd_same upd_other)
open Go.Proofs.Qxb6626223a.Graph Go.Proofs.Qxb6626223a.Canon Go.Proofs.Qxb6626223a.PlainU
open Go.Proofs.Qxb6626223a.Frame Go.Proofs.Qxb6626223a.Order Go.Proofs.Qxb6626223a.Find Go.Proofs.Qxb6626223a.Agents Go.Proofs.Qxb6626223a.Same Go.Proofs.Qxb6626223a.Bytes Go.Proofs.Qxb6626223a.ToProj Go.Proofs.Qxb6626223a.CyclesW Go.Proofs.Qxb6626223a.Undir Go.Proofs.Qxb6626223a.OneW
set_option linter.unusedVariables false
set_option linter.unusedSimpArgs false

/-- Turned round. -/
def turn (c : Q4) : Q4 := ⟨c.l, c.e, c.n, c.k⟩
def revL (cs : List Q4) : List Q4 := (cs.map turn).reverse
def bothL (cs : List Q4) : List Q4 := cs.flatMap fun c => [c, turn c]

theorem revL_len (cs : List Q4) : (revL cs).length = cs.length := by simp [revL]
theorem bothL_len : ∀ cs : List Q4, (bothL cs).length = 2 * cs.length
  | [] => rfl
  | c :: r => by
    have := bothL_len r
    unfold bothL at *
    rw [List.flatMap_cons, List.length_append, this]
    simp
    omega
theorem revL_at {cs : List Q4} {p : Nat} {c : Q4} (h : (revL cs)[p]? = some c) : ∃ d, p < cs.length ∧ cs[cs.length - 1 - p]? = some d ∧ c = turn d := by
  have hp : p < cs.length := by have := (List.getElem?_eq_some_iff.1 h).1; rw [revL_len] at this; exact this
  unfold revL at h
  rw [List.getElem?_reverse (by simpa using hp), List.getElem?_map, List.length_map] at h
  cases hd : cs[cs.length - 1 - p]? with
  | none => rw [hd] at h; cases h
  | some d => rw [hd] at h; cases h; exact ⟨d, hp, rfl, rfl⟩
theorem bothL_at : ∀ {cs : List Q4} {p : Nat} {c : Q4}, (bothL cs)[p]? = some c → ∃ j d, cs[j]? = some d ∧ ((p = 2 * j ∧ c = d) ∨ (p = 2 * j + 1 ∧ c = turn d))
  | [], p, c, h => by simp [bothL] at h
  | x :: r, p, c, h => by
    have e : bothL (x :: r) = x :: turn x :: bothL r := by simp [bothL]
    rw [e] at h
    match p, h with
    | 0, h => simp at h; exact ⟨0, x, rfl, .inl ⟨rfl, h.symm⟩⟩
    | 1, h => simp at h; exact ⟨0, x, rfl, .inr ⟨rfl, h.symm⟩⟩
    | p + 2, h =>
      simp at h
      obtain ⟨j, d, hj, hd⟩ := bothL_at h
      refine ⟨j + 1, d, by simpa using hj, ?_⟩
      rcases hd with ⟨rfl, hd⟩ | ⟨rfl, hd⟩
      · exact .inl ⟨by omega, hd⟩
      · exact .inr ⟨by omega, hd⟩
theorem bothL_mem {cs : List Q4} {c : Q4} (h : c ∈ bothL cs) : ∃ d ∈ cs, c = d ∨ c = turn d := by
  obtain ⟨d, hd, h⟩ := List.mem_flatMap.1 h
  simp at h
  exact ⟨d, hd, h⟩
theorem pairs_both : ∀ cs : List Q4, pairs (bothL cs) = both (pairs cs)
  | [] => rfl
  | x :: r => by
    have := pairs_both r
    unfold pairs bothL both at *
    simp only [List.flatMap_cons, List.map_append, List.map_cons, this]
    rfl
theorem pairs_rev (cs : List Q4) (a b : ByteArray) : (a, b) ∈ pairs cs ↔ (b, a) ∈ pairs (revL cs) := by
  unfold pairs revL turn
  simp only [List.mem_map, List.mem_reverse, Prod.mk.injEq]
  constructor
  · rintro ⟨c, hc, rfl, rfl⟩
    exact ⟨_, ⟨c, hc, rfl⟩, rfl, rfl⟩
  · rintro ⟨_, ⟨c, hc, rfl⟩, rfl, rfl⟩
    exact ⟨c, hc, rfl, rfl⟩
theorem mutual_rev (cs : List Q4) : Mutual (pairs (revL cs)) = Mutual (pairs cs) := by
  funext a b
  exact propext (mutual_turned (pairs_rev cs) a b).symm

set_option maxHeartbeats 2000000 in
set_option maxRecDepth 100000 in
theorem walk (ao : Option Addr) (n cap : Nat) (cs : List Q4) (w : World) (hH : Held w ao cs) (hl : cs.length = n) (hm : n ≤ maxLen) :
    Calls Try.prog 4 #[.slice ao n cap] w fun e w' => e = .returned (.bool true) ∧ Kept nothing w w' := by
  have HH : Hid (Held w ao cs) := hH
  have HL : Hid (cs.length = n) := hl
  have BY := bytes2_any ao n cap cs w hH hl hm
  unfold maxLen at hm
  clear hH hl
  go_enter Try.func4, Try.ntmps4
  go_wp2_with fail
  refine BY.mono ?_
  rintro e w' ⟨⟨b, rfl, hb⟩, hw⟩
  obtain rfl := hw.symm
  clear BY hw
  cases b with
  | false =>
    clear hb
    go_wp2
    go_ret
    exact ⟨rfl, Kept.refl _ _⟩
  | true =>
    have HS : Hid (∀ c ∈ cs, Small c) := hb rfl
    clear hb
    by_cases hn : n ≤ 1024
    · go_wp2
      go_loopw [3, 4] (fun tv xv wr => ∃ t i q : Nat, t ≤ 1048576 ∧ i ≤ n ∧ tv = .int .i64 t ∧ xv = .int .i64 i ∧ wr = w.drewN q) (fun _ xv _ => n - (intOf xv).toNat)
      case atStart => exact ⟨n * 64, 0, 0, by omega, Nat.zero_le _, by go_num, by go_num, rfl⟩
      case round =>
        obtain ⟨t, i, q, ht, hi, rfl, rfl, rfl⟩ := hrel
        by_cases hlt : i < n
        · obtain ⟨c, hc⟩ : ∃ c, cs[i]? = some c := ⟨_, List.getElem?_eq_getElem (by rw [HL.out]; exact hlt)⟩
          obtain ⟨g, off, rfl, c0, c1, c2, c3⟩ := HH.out i c hc
          obtain ⟨s0, s1, s2, s3⟩ := HS.out c (List.mem_of_getElem? hc)
          obtain ⟨ce, cl, cn, ck⟩ := c
          simp only at c0 c1 c2 c3 s0 s1 s2 s3
          clear hc
          by_cases hbig : t + (ce.size + cl.size + cn.size + ck.size) ≤ 1048576
          · go_wp2
            go_quiet (fail)
            go_wp2
            go_roundw
            case rel => exact ⟨t + (ce.size + cl.size + cn.size + ck.size), i + 1, q + nq, hbig, by omega, by go_num, by go_num, by simp [World.drewN, Nat.add_assoc]⟩
            case measure => simp [intOf]; omega
          · go_wp2
            go_quiet (fail)
            go_wp2
            go_ret
            exact ⟨rfl, (Kept.refl _ _).drewN _⟩
        · obtain rfl : i = n := by omega
          have KQ : Hid (Kept nothing w (w.drewN q)) := (Kept.refl _ _).drewN _
          generalize w.drewN q = wq at KQ ⊢
          have TP := toProj_any ao i cap cs wq (OneW.Held.kept0 HH.out KQ.out) HL.out (by omega)
          go_wp2_with fail
          refine TP.mono ?_
          rintro e w1 ⟨g, rfl, h1, k1, -⟩
          clear TP
          have K1 : Hid (Kept nothing w w1) := KQ.out.trans k1
          have CY := cycles_any (some ⟨g, 0, Option.none⟩) i i cs w1 h1 HL.out (by omega) (fun c hc => ⟨(HS.out c hc).1, (HS.out c hc).2.1⟩)
          clear h1 k1 KQ
          go_wp2_with fail
          refine CY.mono ?_
          rintro e w2 ⟨v1, L1, rfl, g1, i1, k2, bl1, bl2⟩
          clear CY
          have K2 : Hid (Kept nothing w w2) := K1.out.trans k2
          have G1 : Hid (GroupsAt w2 v1 L1) := g1
          have I1 : Hid (IsGroups slt (Mutual (pairs cs)) L1) := i1
          have BL : Hid (L1.length ≤ 65536 ∧ ∀ l ∈ L1, l.length ≤ 65536) := ⟨bl1, bl2⟩
          clear g1 i1 k2 K1 bl1 bl2
          have hmk := run_make4 i (by omega)
          have F0 : Hid (Laid (w2.alloc (.cells (zero4 i) 32)) w2.heap.size i fun _ => Option.none) := Laid.start w2 i
          have KF0 : Hid (Kept nothing w2 (w2.alloc (.cells (zero4 i) 32))) := (Kept.refl _ _).alloc _
          go_wp2
          clear hmk
          generalize w2.alloc (.cells (zero4 i) 32) = w3 at F0 KF0 ⊢
          generalize hgV : w2.heap.size = gV at F0 ⊢
          have HGV : Hid (w2.heap.size ≤ gV) := by show _ ≤ _; omega
          go_loopw [8] (fun xv wr => ∃ x : Nat, x ≤ i ∧ xv = .int .i64 x ∧ Hid (Kept nothing w2 wr) ∧ Hid (∃ f, Laid wr gV i f ∧ ∀ j c, j < x → cs[j]? = some c → f (i - 1 - j) = some (turn c))) (fun xv _ => i - (intOf xv).toNat)
          case atStart => exact ⟨0, Nat.zero_le _, by go_num, KF0, _, F0.out, by omega⟩
          case round =>
            clear F0 KF0 hgV hlt
            obtain ⟨x, hx, rfl, HK, HF⟩ := hrel
            by_cases hlt : x < i
            · obtain ⟨c, hc⟩ : ∃ c, cs[x]? = some c := ⟨_, List.getElem?_eq_getElem (by rw [HL.out]; exact hlt)⟩
              obtain ⟨f, F, hf⟩ := HF.out
              obtain ⟨g2, off, rfl, c0, c1, c2, c3⟩ := HH.out x c hc
              have kw := K2.out.trans HK.out
              replace c0 := kw.cell c0 id
              replace c1 := kw.cell c1 id
              replace c2 := kw.cell c2 id
              replace c3 := kw.cell c3 id
              obtain ⟨y, hy⟩ : ∃ y, i - 1 - x = y := ⟨_, rfl⟩
              have hyi : y < i := by omega
              have hyx : (i : Int) - 1 - (x : Int) = (y : Int) := by omega
              obtain ⟨u0, q0⟩ := F.old (o := y * 4) (by omega)
              obtain ⟨u1, q1⟩ := F.old (o := y * 4 + 1) (by omega)
              obtain ⟨u2, q2⟩ := F.old (o := y * 4 + 2) (by omega)
              obtain ⟨u3, q3⟩ := F.old (o := y * 4 + 3) (by omega)
              have r0 := F.free (y * 4)
              have r1 := F.free (y * 4 + 1)
              have r2 := F.free (y * 4 + 2)
              have r3 := F.free (y * 4 + 3)
              have KN : Hid (Kept nothing w2 (set4 wr gV (y * 4) (turn c))) := kept_set4 HK.out (.inr HGV.out) _ _
              have FN : Hid (∃ f, Laid (set4 wr gV (y * 4) (turn c)) gV i f ∧ ∀ j c, j < x + 1 → cs[j]? = some c → f (i - 1 - j) = some (turn c)) := ⟨_, F.step hyi (turn c), fun j d hj hd => by
                by_cases e : j = x
                · subst e; rw [hc] at hd; cases hd; rw [hy]; exact upd_same _ _ _
                · rw [upd_other _ _ (by
                    have hjl := (List.getElem?_eq_some_iff.1 hd).1
                    rw [HL.out] at hjl
                    omega)]; exact hf j d (by omega) hd⟩
              obtain ⟨ce, cl, cn, ck⟩ := c
              simp only at c0 c1 c2 c3
              clear F hf HF HK hc kw hy
              go_wp2
              go_region
              clear q0 q1 q2 q3 r0 r1 r2 r3 c0 c1 c2 c3
              go_wp2
              go_roundw
              case rel => exact ⟨x + 1, by omega, by go_num, KN.out.drew, FN⟩
              case measure => simp [intOf]; omega
            · obtain rfl : x = i := by omega
              obtain ⟨f, F, hf⟩ := HF.out
              have hR : Held wr (some ⟨gV, 0, Option.none⟩) (revL cs) := F.held (by rw [revL_len, HL.out]) (fun p c hp => by
                obtain ⟨d, hpl, hd, rfl⟩ := revL_at hp
                rw [HL.out] at hpl hd
                have := hf (x - 1 - p) d (by omega) hd
                rw [show x - 1 - (x - 1 - p) = p by omega] at this
                exact this)
              have K5 : Hid (Kept nothing w2 wr) := HK.out
              have CY := cycles_any (some ⟨gV, 0, Option.none⟩) x x (revL cs) wr hR (by rw [revL_len, HL.out]) (by omega) (fun c hc => by
                simp only [revL, List.mem_reverse, List.mem_map] at hc
                obtain ⟨d, hd, rfl⟩ := hc
                exact ⟨(HS.out d hd).2.1, (HS.out d hd).1⟩)
              clear F hf HF HK hR hlt
              go_wp2_with fail
              refine CY.mono ?_
              rintro e w5 ⟨v2, L2, rfl, g2, i2, k5, -, -⟩
              clear CY
              rw [mutual_rev] at i2
              have eL : L1 = L2 := IsGroups.unique slt_irr slt_trans I1.out i2
              subst eL
              have G2 : Hid (GroupsAt w5 v2 L1) := g2
              have G1' : Hid (GroupsAt w5 v1 L1) := G1.out.kept (K5.out.trans k5)
              have K6 : Hid (Kept nothing w w5) := K2.out.trans (K5.out.trans k5)
              clear g2 i2 k5 K5 G1 K2 I1 HGV
              have hmk := run_make4 (2 * x) (by omega)
              rw [show ((2 * x : Nat) : Int) = 2 * (x : Int) from by omega] at hmk
              have F0 : Hid (Laid (w5.alloc (.cells (zero4 (2 * x)) 32)) w5.heap.size (2 * x) fun _ => Option.none) := Laid.start w5 (2 * x)
              have KF0 : Hid (Kept nothing w5 (w5.alloc (.cells (zero4 (2 * x)) 32))) := (Kept.refl _ _).alloc _
              go_wp2
              clear hmk
              generalize w5.alloc (.cells (zero4 (2 * x)) 32) = w6 at F0 KF0 ⊢
              generalize hgW : w5.heap.size = gW at F0 ⊢
              have HGW : Hid (w5.heap.size ≤ gW) := by show _ ≤ _; omega
              obtain ⟨nb, hnb⟩ : ∃ nb, 2 * x = nb := ⟨_, rfl⟩
              have HNB : Hid (2 * x = nb) := hnb
              rw [hnb] at F0 ⊢
              go_loopw [11] (fun xv wr => ∃ z : Nat, z ≤ x ∧ xv = .int .i64 z ∧ Hid (Kept nothing w5 wr) ∧ Hid (∃ f, Laid wr gW nb f ∧ ∀ j c, j < z → cs[j]? = some c → f (2 * j) = some c ∧ f (2 * j + 1) = some (turn c))) (fun xv _ => x - (intOf xv).toNat)
              case atStart => exact ⟨0, Nat.zero_le _, by go_num, KF0, _, F0.out, by omega⟩
              case round =>
                clear F0 KF0 hgW
                obtain ⟨z, hz, rfl, HK, HF⟩ := hrel
                by_cases hlt : z < x
                · obtain ⟨c, hc⟩ : ∃ c, cs[z]? = some c := ⟨_, List.getElem?_eq_getElem (by rw [HL.out]; exact hlt)⟩
                  obtain ⟨f, F, hf⟩ := HF.out
                  obtain ⟨g2, off, rfl, c0, c1, c2, c3⟩ := HH.out z c hc
                  have kw := K6.out.trans HK.out
                  have gb : g2 < w.heap.size := lt_of_cell c0
                  have gne : g2 ≠ gW := by
                    have h1 := K6.out.size
                    have h2 := HGW.out
                    omega
                  replace c0 := kw.cell c0 id
                  replace c1 := kw.cell c1 id
                  replace c2 := kw.cell c2 id
                  replace c3 := kw.cell c3 id
                  obtain ⟨y, hy⟩ : ∃ y, 2 * z = y := ⟨_, rfl⟩
                  have hyi : y + 1 < nb := by have := HNB.out; omega
                  have hyx : 2 * (z : Int) = (y : Int) := by omega
                  obtain ⟨u0, q0⟩ := F.old (o := y * 4) (by omega)
                  obtain ⟨u1, q1⟩ := F.old (o := y * 4 + 1) (by omega)
                  obtain ⟨u2, q2⟩ := F.old (o := y * 4 + 2) (by omega)
                  obtain ⟨u3, q3⟩ := F.old (o := y * 4 + 3) (by omega)
                  have r0 := F.free (y * 4)
                  have r1 := F.free (y * 4 + 1)
                  have r2 := F.free (y * 4 + 2)
                  have r3 := F.free (y * 4 + 3)
                  have KN : Hid (Kept nothing w5 (set4 wr gW (y * 4) c)) := kept_set4 HK.out (.inr HGW.out) _ _
                  have F1 := F.step (i := y) (by omega) c
                  have HF1 : Hid (Laid (set4 wr gW (y * 4) c) gW nb (upd f y (some c))) := F1
                  have HFF : Hid (∀ j c, j < z → cs[j]? = some c → f (2 * j) = some c ∧ f (2 * j + 1) = some (turn c)) := hf
                  have HC : Hid (cs[z]? = some c) := hc
                  have HY : Hid (2 * z = y) := hy
                  obtain ⟨ce, cl, cn, ck⟩ := c
                  simp only at c0 c1 c2 c3
                  clear F hf HF HK hc kw hy F1
                  unfold set4 at KN HF1
                  simp only at KN HF1
                  go_wp2
                  go_region
                  clear q0 q1 q2 q3 r0 r1 r2 r3
                  have kc : ∀ o u, wr.cell? ⟨g2, o, Option.none⟩ = some u → ((((wr.setCell ⟨gW, y * 4, Option.none⟩ (.string ce)).setCell ⟨gW, y * 4 + 1, Option.none⟩ (.string cl)).setCell ⟨gW, y * 4 + 2, Option.none⟩ (.string cn)).setCell ⟨gW, y * 4 + 3, Option.none⟩ (.string ck)).cell? ⟨g2, o, Option.none⟩ = some u := fun o u h => by
                    rw [cell_set_ne _ _ _ gne, cell_set_ne _ _ _ gne, cell_set_ne _ _ _ gne, cell_set_ne _ _ _ gne]
                    exact h
                  replace c0 := kc _ _ c0
                  replace c1 := kc _ _ c1
                  replace c2 := kc _ _ c2
                  replace c3 := kc _ _ c3
                  clear kc
                  generalize (((wr.setCell ⟨gW, y * 4, Option.none⟩ (.string ce)).setCell ⟨gW, y * 4 + 1, Option.none⟩ (.string cl)).setCell ⟨gW, y * 4 + 2, Option.none⟩ (.string cn)).setCell ⟨gW, y * 4 + 3, Option.none⟩ (.string ck) = ws at KN HF1 c0 c1 c2 c3 ⊢
                  have hyx1 : 2 * (z : Int) + 1 = ((y + 1 : Nat) : Int) := by omega
                  have F2 := HF1.out
                  obtain ⟨y1, hy1⟩ : ∃ y1, y + 1 = y1 := ⟨_, rfl⟩
                  rw [hy1] at hyi hyx1
                  have hyx2 : (y : Int) + 1 = (y1 : Int) := by omega
                  obtain ⟨u0, q0⟩ := F2.old (o := y1 * 4) (by omega)
                  obtain ⟨u1, q1⟩ := F2.old (o := y1 * 4 + 1) (by omega)
                  obtain ⟨u2, q2⟩ := F2.old (o := y1 * 4 + 2) (by omega)
                  obtain ⟨u3, q3⟩ := F2.old (o := y1 * 4 + 3) (by omega)
                  have r0 := F2.free (y1 * 4)
                  have r1 := F2.free (y1 * 4 + 1)
                  have r2 := F2.free (y1 * 4 + 2)
                  have r3 := F2.free (y1 * 4 + 3)
                  have KN2 : Hid (Kept nothing w5 (set4 ws gW (y1 * 4) (turn ⟨ce, cl, cn, ck⟩))) := kept_set4 KN.out (.inr HGW.out) _ _
                  have FN : Hid (∃ f, Laid (set4 ws gW (y1 * 4) (turn ⟨ce, cl, cn, ck⟩)) gW nb f ∧ ∀ j c, j < z + 1 → cs[j]? = some c → f (2 * j) = some c ∧ f (2 * j + 1) = some (turn c)) := ⟨_, F2.step hyi (turn ⟨ce, cl, cn, ck⟩), fun j d hj hd => by
                    have hy0 := HY.out
                    by_cases e : j = z
                    · subst e
                      rw [HC.out] at hd
                      cases hd
                      rw [hy0, hy1, upd_same, upd_other _ _ (by omega), upd_same]
                      exact ⟨rfl, rfl⟩
                    · rw [upd_other _ _ (by omega), upd_other _ _ (by omega), upd_other _ _ (by omega), upd_other _ _ (by omega)]
                      exact HFF.out j d (by omega) hd⟩
                  unfold set4 turn at KN2 FN
                  simp only at KN2 FN
                  clear F2 HF1 KN hy1
                  go_wp2
                  go_region
                  clear q0 q1 q2 q3 r0 r1 r2 r3 c0 c1 c2 c3
                  go_wp2
                  go_roundw
                  case rel => exact ⟨z + 1, by omega, by go_num, KN2.out.drew.drew, FN⟩
                  case measure => simp [intOf]; omega
                · obtain rfl : z = x := by omega
                  obtain ⟨f, F, hf⟩ := HF.out
                  have hB : Held wr (some ⟨gW, 0, Option.none⟩) (bothL cs) := F.held (by rw [bothL_len, HL.out, HNB.out]) (fun p c hp => by
                    obtain ⟨j, d, hj, hd⟩ := bothL_at hp
                    have hjl := (List.getElem?_eq_some_iff.1 hj).1
                    rw [HL.out] at hjl
                    obtain ⟨h1, h2⟩ := hf j d hjl hj
                    rcases hd with ⟨rfl, rfl⟩ | ⟨rfl, rfl⟩
                    · exact h1
                    · exact h2)
                  have K7 : Hid (Kept nothing w5 wr) := HK.out
                  have CY := cycles_any (some ⟨gW, 0, Option.none⟩) nb nb (bothL cs) wr hB (by rw [bothL_len, HL.out, HNB.out]) (by have := HNB.out; omega) (fun c hc => by
                    obtain ⟨d, hd, rfl | rfl⟩ := bothL_mem hc
                    · exact ⟨(HS.out _ hd).1, (HS.out _ hd).2.1⟩
                    · exact ⟨(HS.out d hd).2.1, (HS.out d hd).1⟩)
                  clear F hf HF HK hB hlt
                  go_wp2_with fail
                  refine CY.mono ?_
                  rintro e w7 ⟨v3, L3, rfl, g3, i3, k7, bl3, bl4⟩
                  clear CY
                  rw [pairs_both] at i3
                  have kk := K7.out.trans k7
                  have I3 : Hid (IsGroups slt (Mutual (both (pairs cs))) L3) := i3
                  have G3 : Hid (GroupsAt w7 v3 L3) := g3
                  have BL3 : Hid (L3.length ≤ 65536 ∧ ∀ l ∈ L3, l.length ≤ 65536) := ⟨bl3, bl4⟩
                  have K8 : Hid (Kept nothing w w7) := K6.out.trans kk
                  have SA := same_any v1 v2 L1 w7 (G1'.out.kept kk) (G2.out.kept kk) BL.out.1 BL.out.2
                  clear g3 i3 k7 bl3 bl4 kk K7 K6 G1' G2 BL
                  go_wp2_with fail
                  refine SA.mono ?_
                  rintro e w8 ⟨rfl, q8, hw8⟩
                  clear SA
                  have kd : Kept nothing w7 w8 := by rw [hw8]; exact (Kept.refl _ _).drewN _
                  have K9 : Hid (Kept nothing w w8) := K8.out.trans kd
                  have G3' : Hid (GroupsAt w8 v3 L3) := G3.out.kept kd
                  have UD := undir_any ao z cap cs w8 (OneW.Held.kept0 HH.out K9.out) HL.out (by omega)
                  clear hw8 kd G3 K8
                  go_wp2_with fail
                  refine UD.mono ?_
                  rintro e w9 ⟨v4, L4, rfl, g4, i4, k9, -, -⟩
                  clear UD
                  have eL : L3 = L4 := IsGroups.unique slt_irr slt_trans I3.out i4
                  subst eL
                  have K10 : Hid (Kept nothing w w9) := K9.out.trans k9
                  have SA := same_any v3 v4 L3 w9 (G3'.out.kept k9) g4 BL3.out.1 BL3.out.2
                  clear g4 i4 k9 K9 G3' I3 BL3
                  go_wp2_with fail
                  refine SA.mono ?_
                  rintro e w10 ⟨rfl, q10, hw10⟩
                  have K11 : Hid (Kept nothing w w10) := by
                    show Kept nothing w w10
                    rw [hw10]
                    exact K10.out.drewN _
                  clear SA hw10 K10
                  go_wp2
                  go_ret
                  exact ⟨rfl, K11.out⟩
    · go_wp2
      go_ret
      exact ⟨rfl, Kept.refl _ _⟩

end Go.Proofs.Qxb6626223a.TwoW
