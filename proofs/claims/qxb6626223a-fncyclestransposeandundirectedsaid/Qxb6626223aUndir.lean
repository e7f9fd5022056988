/-
  THE WALK of zzUndirectedComponents.
-/
import Derived.Test.Qxb6626223aRoot
import Derived.BigRegion
namespace Go.Proofs.Qxb6626223a.Undir
open Go.RowKit
open Go.Proofs.Qxb6626223a.Canon Go.Proofs.Qxb6626223a.Graph Go.Proofs.Qxb6626223a.PlainG Go.Proofs.Qxb6626223a.PlainU
open Go.Proofs.Qxb6626223a.Frame Go.Proofs.Qxb6626223a.Order Go.Proofs.Qxb6626223a.Find Go.Proofs.Qxb6626223a.RowsS Go.Proofs.Qxb6626223a.Insert Go.Proofs.Qxb6626223a.Agents Go.Proofs.Qxb6626223a.Same Go.Proofs.Qxb6626223a.Nest Go.Proofs.Qxb6626223a.Index Go.Proofs.Qxb6626223a.Mat Go.Proofs.Qxb6626223a.MutualW Go.Proofs.Qxb6626223a.Root
set_option linter.unusedVariables false
set_option linter.unusedSimpArgs false

/-- Rows of rows, where what turns is of another type. -/
theorem Nest.keptT {B : Nat} {w w' : World} {e eo : TypeId} {g n : Nat} {Ls : List (List Value)} (h : Nest B w e eo g n Ls) {S : Nat → Prop} (hk : Kept S w w') (hS : ∀ k A t, S k → w.heap[k]? = some (Obj.cells A t (0, 0)) → t ≠ e ∧ t ≠ eo) : Nest B w' e eo g n Ls := by
  obtain ⟨vs, h1, h2, h3, h4, h5, h6⟩ := h
  refine ⟨vs, ownsRow_keep h1 hk (fun k hk' hs => ?_), h2, h3, h4, fun i u l hu hl => ?_, h6⟩
  · obtain ⟨A, hA⟩ := own_obj h1 hk'
    exact (hS k A _ hs hA).2 rfl
  · obtain ⟨a, b⟩ := h5 i u l hu hl
    refine ⟨ownsRow_keep a hk (fun k hk' hs => ?_), b⟩
    obtain ⟨A, hA⟩ := own_obj a hk'
    exact (hS k A _ hs hA).1 rfl

theorem Nest.own {B : Nat} {w : World} {e eo : TypeId} {g n : Nat} {Ls : List (List Value)} (h : Nest B w e eo g n Ls) {i : Nat} {l : List Value} (hl : Ls[i]? = some l) :
    ∃ ao cap, w.cell? ⟨g, i, Option.none⟩ = some (.slice ao l.length cap) ∧ w.ownsRow 0 e 1 (.slice ao l.length cap) l.length l := by
  obtain ⟨vs, h1, h2, h3, h4, h5, h6⟩ := h
  have hi : i < n := by have := (List.getElem?_eq_some_iff.1 hl).1; omega
  have hvl : vs.length = n := by have := h1.1; omega
  obtain ⟨u, hu⟩ : ∃ u, vs[i]? = some u := ⟨_, List.getElem?_eq_getElem (by omega)⟩
  have o := (h5 i u l hu hl).1
  obtain ⟨ao, cap, e, _⟩ := own_at o
  subst e
  exact ⟨ao, cap, (own_cell h1 hu).1, o⟩

/-- What an append onto a row of strings leaves: blocks of other types. -/
theorem push_frame {w : World} {v v' : Value} {l : List ByteArray} {s : ByteArray} {w1 : World} (h : OwnS w v l) (hl : l.length ≤ 1099511627776) (hrun : (Builtin.append_ #[34, 34] 34 #[v, .slice (some ⟨w.heap.size, 0, Option.none⟩) 1 1]).run Try.prog (w.alloc (.cells #[.string s] 9)) = .ok v' w1) {k : Nat} {A : Array Value} {t : TypeId} {fz : Nat × Nat} (hk : w.heap[k]? = some (.cells A t fz)) (ht : t ≠ 9) : w1.heap[k]? = some (.cells A t fz) := by
  obtain ⟨v2, w2, hrun2, _, k2, _⟩ := push_s h s hl
  rw [hrun2] at hrun
  cases hrun
  refine k2.at hk fun hr => ?_
  obtain ⟨B, hB⟩ := own_obj (w := w) h (k := k) hr
  rw [hk] at hB
  simp at hB
  exact ht hB.2.1

theorem own_of_block {w w' : World} {e : TypeId} {g n cap : Nat} {xs : List Value} (h : w.ownsRow 0 e 1 (.slice (some ⟨g, 0, Option.none⟩) n cap) n xs) (hb : w'.heap[g]? = w.heap[g]?) : w'.ownsRow 0 e 1 (.slice (some ⟨g, 0, Option.none⟩) n cap) n xs := by
  obtain ⟨h1, h2⟩ := h
  refine ⟨h1, ?_⟩
  rcases h2 with h0 | ⟨g', cap', cur, he, hb', hg, rest⟩
  · exact .inl h0
  · simp only [Value.slice.injEq, Option.some.injEq, Addr.mk.injEq, and_true, true_and] at he
    obtain ⟨rfl, rfl⟩ := he
    exact .inr ⟨g, cap, cur, rfl, hb', hb.trans hg, rest⟩

theorem row_is_range {ps : List Nat} {m : Nat} (hl : ps.length = m) (h : ∀ j, j < m → ps[j]? = some j) : ps = List.range m := by
  apply List.ext_getElem?
  intro j
  by_cases hj : j < m
  · rw [h j hj, List.getElem?_range hj]
  · rw [List.getElem?_eq_none (by omega), List.getElem?_eq_none (by simp; omega)]

theorem strs_len' (l : List ByteArray) : (strs l).length = l.length := by simp [strs]

attribute [-go_sem] Go.Builtin.append_

set_option maxHeartbeats 1000000 in
set_option maxRecDepth 100000 in
theorem undir_any (ao : Option Addr) (n cap : Nat) (cs : List Q4) (w : World) (hH : Held w ao cs) (hl : cs.length = n) (hn : n ≤ 4096) :
    Calls Try.prog 11 #[.slice ao n cap] w fun e w' => ∃ v L, e = .returned v ∧ GroupsAt w' v L ∧ IsGroups slt (Mutual (both (pairs cs))) L ∧ Kept nothing w w' ∧ L.length ≤ 65536 ∧ ∀ l ∈ L, l.length ≤ 65536 := by
  have HH : Hid (Held w ao cs) := hH
  have HL : Hid (cs.length = n) := hl
  have AG := agents_any ao n cap cs w hH hl (by omega)
  clear hH hl
  go_enter Try.func11, Try.ntmps11
  go_wp2_with fail
  refine AG.mono ?_
  rintro e wA ⟨vA, A, rfl, oA, hA, kA, fA⟩
  clear AG
  obtain ⟨aA, cA, rfl, atA⟩ := own_shape oA
  have KA : Hid (Kept nothing w wA) := kA
  have AtA : Hid (At wA aA (strs A)) := atA
  have hm0 : A.length ≤ 8192 := by have := hA.2.2; rw [pairs_len, HL.out] at this; omega
  have HS : Hid (A.Pairwise slt) := hA.1
  have HND : Hid (A.Nodup) := sorted_nodup hA.1
  have HIN : Hid (∀ p ∈ pairs cs, p.1 ∈ A ∧ p.2 ∈ A) := AgentsOf.in hA
  clear oA hA kA fA atA
  obtain ⟨m, hm⟩ : ∃ m, A.length = m := ⟨_, rfl⟩
  have HM : Hid (A.length = m) := hm
  rw [hm] at hm0 ⊢
  clear hm
  have hmk1 := run_make_row' (P := Try.prog) 50 3 (.int .i64 0) 8 Try.underlying50 info3 rfl .i64 .i64 m (by omega) (by omega)
  have P0 : Hid (∃ ps, IRow (wA.alloc (.cells (madeCells #[.int .i64 0] m) 3)) wA.heap.size m ps ∧ ∀ j, j < 0 → ps[j]? = some j) := ⟨_, IRow.start wA (by unfold maxLen; omega), fun j hj => by omega⟩
  have K0 : Hid (Kept nothing wA (wA.alloc (.cells (madeCells #[.int .i64 0] m) 3))) := (Kept.refl _ _).alloc _
  go_wp2
  clear hmk1
  generalize wA.alloc (.cells (madeCells #[.int .i64 0] m) 3) = w1 at P0 K0 ⊢
  generalize hgP : wA.heap.size = gP at P0 ⊢
  have HGP : Hid (wA.heap.size ≤ gP) := by show _ ≤ _; omega
  clear hgP
  go_loopw [6] (fun xv wr => ∃ i : Nat, i ≤ m ∧ xv = .int .i64 i ∧ Hid (Kept nothing wA wr) ∧ Hid (∃ ps, IRow wr gP m ps ∧ ∀ j, j < i → ps[j]? = some j)) (fun xv _ => m - (intOf xv).toNat)
  case atStart => exact ⟨0, Nat.zero_le _, by go_num, K0, P0⟩
  case round =>
    clear P0 K0
    obtain ⟨i, hi, rfl, HK, HP⟩ := hrel
    obtain ⟨ps, ip, hps⟩ := HP.out
    by_cases hlt : i < m
    · obtain ⟨q, hq⟩ : ∃ q, ps[i]? = some q := ⟨_, List.getElem?_eq_getElem (by rw [ip.len]; exact hlt)⟩
      obtain ⟨c0, f0⟩ := ip.cell hq
      have HP2 : Hid (∃ ps, IRow (wr.setCell ⟨gP, i, Option.none⟩ (.int .i64 (i : Int))) gP m ps ∧ ∀ j, j < i + 1 → ps[j]? = some j) := ⟨_, ip.set hlt i, fun j hj => by
        by_cases e : j = i
        · subst e; rw [List.getElem?_set_self (by rw [ip.len]; exact hlt)]
        · rw [List.getElem?_set_ne (fun h => e h.symm)]; exact hps j (by omega)⟩
      have HK2 : Hid (Kept nothing wA (wr.setCell ⟨gP, i, Option.none⟩ (.int .i64 (i : Int)))) := HK.out.setCell (p := ⟨gP, i, Option.none⟩) (.inr HGP.out) _
      clear ip hps hq HP HK
      go_wp2
      go_roundw
      case rel => exact ⟨i + 1, by omega, by go_num, HK2, HP2⟩
      case measure => simp [intOf]; omega
    · obtain rfl : i = m := by omega
      have hpr := row_is_range ip.len hps
      subst hpr
      have U0 : Hid (∃ ps rt, IRow wr gP i ps ∧ UF A ((pairs cs).take 0) ps rt) := ⟨_, id, ip, by have := UF.start A; rw [HM.out] at this; exact this⟩
      clear ip hps HP hlt
      go_wp2
      go_loopw [7] (fun xv wr => ∃ x : Nat, x ≤ n ∧ xv = .int .i64 x ∧ Hid (Kept nothing wA wr) ∧ Hid (∃ ps rt, IRow wr gP i ps ∧ UF A ((pairs cs).take x) ps rt)) (fun xv _ => n - (intOf xv).toNat)
      case atStart => exact ⟨0, Nat.zero_le _, by go_num, HK, U0⟩
      case round =>
        clear U0 HK
        obtain ⟨x, hx, rfl, HK, HU⟩ := hrel
        by_cases hlt : x < n
        · obtain ⟨c, hc⟩ : ∃ c, cs[x]? = some c := ⟨_, List.getElem?_eq_getElem (by rw [HL.out]; exact hlt)⟩
          obtain ⟨g, off, rfl, c0, c1, -, -⟩ := HH.out x c hc
          have hKW := KA.out.trans HK.out
          replace c0 := hKW.cell c0 id
          replace c1 := hKW.cell c1 id
          have hp := HIN.out (c.e, c.l) (by simp only [pairs, List.mem_map]; exact ⟨c, List.mem_of_getElem? hc, rfl⟩)
          have HAT : Hid (At wr aA (strs A)) := At.kept0 AtA.out HK.out
          have FD1 := find_any aA i cA A c.e wr HAT.out HM.out (by omega) HS.out
          have HPE : Hid (c.e ∈ A) := hp.1
          have HPL : Hid (c.l ∈ A) := hp.2
          have HTK : Hid ((pairs cs).take (x + 1) = (pairs cs).take x ++ [(c.e, c.l)]) := pairs_take hc
          obtain ⟨ps, rt, ip, uf⟩ := HU.out
          have HIP : Hid (IRow wr gP i ps) := ip
          have HUF : Hid (UF A ((pairs cs).take x) ps rt) := uf
          clear hc hKW hp ip uf HU
          go_wp2_with fail
          refine FD1.mono ?_
          rintro e w' ⟨⟨k1, rfl, hp1⟩, hw⟩
          obtain rfl := hw.symm
          have e1 : A[k1]? = some c.e := place_of_mem HS.out HPE.out hp1
          have b1 : k1 < i := by have := (List.getElem?_eq_some_iff.1 e1).1; rw [HM.out] at this; exact this
          have HE1 : Hid (A[k1]? = some c.e) := e1
          clear FD1 hp1 e1 hw c0
          have RT1 := root_any gP i ps rt A ((pairs cs).take x) k1 wr HIP.out HUF.out b1 (by omega)
          go_wp2_with fail
          refine RT1.mono ?_
          rintro e w' ⟨⟨r1, rfl, q1, d1, z1⟩, hw⟩
          obtain rfl := hw.symm
          have HQ1 : Hid (r1 = rt k1) := q1
          have HZ1 : Hid (ps[r1]? = some r1) := z1
          clear RT1 q1 z1 hw
          have FD2 := find_any aA i cA A c.l wr HAT.out HM.out (by omega) HS.out
          go_wp2_with fail
          refine FD2.mono ?_
          rintro e w' ⟨⟨k2, rfl, hp2⟩, hw⟩
          obtain rfl := hw.symm
          have e2 : A[k2]? = some c.l := place_of_mem HS.out HPL.out hp2
          have b2 : k2 < i := by have := (List.getElem?_eq_some_iff.1 e2).1; rw [HM.out] at this; exact this
          have HE2 : Hid (A[k2]? = some c.l) := e2
          clear FD2 hp2 e2 hw c1
          have RT2 := root_any gP i ps rt A ((pairs cs).take x) k2 wr HIP.out HUF.out b2 (by omega)
          go_wp2_with fail
          refine RT2.mono ?_
          rintro e w' ⟨⟨r2, rfl, q2, d2, z2⟩, hw⟩
          obtain rfl := hw.symm
          have HQ2 : Hid (r2 = rt k2) := q2
          have HZ2 : Hid (ps[r2]? = some r2) := z2
          clear RT2 q2 z2 hw
          by_cases h12 : r1 < r2
          · obtain ⟨c5, f5⟩ := HIP.out.cell HZ2.out
            have HU2 : Hid (∃ ps rt, IRow (wr.setCell ⟨gP, r2, Option.none⟩ (.int .i64 (r1 : Int))) gP i ps ∧ UF A ((pairs cs).take (x + 1)) ps rt) := ⟨_, _, HIP.out.set d2 r1, by
              rw [HTK.out]
              exact HUF.out.join HND.out HE1.out HE2.out h12 HZ2.out HZ1.out (.inl ⟨HQ1.out.symm, HQ2.out.symm⟩)⟩
            have HK2 : Hid (Kept nothing wA (wr.setCell ⟨gP, r2, Option.none⟩ (.int .i64 (r1 : Int)))) := HK.out.setCell (p := ⟨gP, r2, Option.none⟩) (.inr HGP.out) _
            clear HIP HUF HK
            go_wp2
            go_roundw
            case rel => exact ⟨x + 1, by omega, by go_num, HK2, HU2⟩
            case measure => simp [intOf]; omega
          · by_cases h21 : r2 < r1
            · obtain ⟨c5, f5⟩ := HIP.out.cell HZ1.out
              have HU2 : Hid (∃ ps rt, IRow (wr.setCell ⟨gP, r1, Option.none⟩ (.int .i64 (r2 : Int))) gP i ps ∧ UF A ((pairs cs).take (x + 1)) ps rt) := ⟨_, _, HIP.out.set d1 r2, by
                rw [HTK.out]
                exact HUF.out.join HND.out HE1.out HE2.out h21 HZ1.out HZ2.out (.inr ⟨HQ1.out.symm, HQ2.out.symm⟩)⟩
              have HK2 : Hid (Kept nothing wA (wr.setCell ⟨gP, r1, Option.none⟩ (.int .i64 (r2 : Int)))) := HK.out.setCell (p := ⟨gP, r1, Option.none⟩) (.inr HGP.out) _
              clear HIP HUF HK
              go_wp2
              go_roundw
              case rel => exact ⟨x + 1, by omega, by go_num, HK2, HU2⟩
              case measure => simp [intOf]; omega
            · have HU2 : Hid (∃ ps rt, IRow wr gP i ps ∧ UF A ((pairs cs).take (x + 1)) ps rt) := ⟨_, _, HIP.out, by
                rw [HTK.out]
                exact HUF.out.same HND.out HE1.out HE2.out (by rw [← HQ1.out, ← HQ2.out]; omega)⟩
              clear HIP HUF
              go_wp2
              go_roundw
              case rel => exact ⟨x + 1, by omega, by go_num, HK, HU2⟩
              case measure => simp [intOf]; omega
        · obtain rfl : x = n := by omega
          obtain ⟨ps, rt, ip, uf⟩ := HU.out
          rw [List.take_of_length_le (by rw [pairs_len, HL.out]; exact Nat.le_refl _)] at uf
          have HIP : Hid (IRow wr gP i ps) := ip
          have HUF : Hid (UF A (pairs cs) ps rt) := uf
          have HKB : Hid (Kept nothing wA wr) := HK.out
          clear HU HK ip uf hlt
          generalize wr = wB at *
          have hmk2 := run_make_row' (P := Try.prog) 26 34 (.slice Option.none 0 0) 24 Try.underlying26 info34 rfl .i64 .i64 i (by omega) (by omega)
          have hmk3 := run_make_row' (P := Try.prog) 50 3 (.int .i64 0) 8 Try.underlying50 info3 rfl .i64 .i64 i (by omega) (by omega)
          have K0 : Hid (Kept nothing wB ((wB.alloc (.cells (madeCells #[.slice Option.none 0 0] i) 34)).alloc (.cells (madeCells #[.int .i64 0] i) 3))) := ((Kept.refl _ _).alloc _).alloc _
          have N0 : Hid (∃ Ls : List (List ByteArray), Nest wB.heap.size ((wB.alloc (.cells (madeCells #[.slice Option.none 0 0] i) 34)).alloc (.cells (madeCells #[.int .i64 0] i) 3)) 9 34 wB.heap.size i (Ls.map strs) ∧ CompOf A rt 0 Ls) := by
            refine ⟨List.replicate i [], ?_, by have := CompOf.start A rt; rw [HM.out] at this; exact this⟩
            have := Nest.start wB (e := 9) (eo := 34) (by decide) (n := i) (by unfold maxLen; omega)
            have h2 := this.kept (S := nothing) ((Kept.refl _ _).alloc (.cells (madeCells #[.int .i64 0] i) 3)) (fun _ _ => id)
            simpa [strs] using h2
          have R0 : Hid (∃ rs, IRow ((wB.alloc (.cells (madeCells #[.slice Option.none 0 0] i) 34)).alloc (.cells (madeCells #[.int .i64 0] i) 3)) (wB.heap.size + 1) i rs ∧ ∀ y, y < 0 → rs[y]? = some (rt y)) := by
            have := IRow.start (wB.alloc (.cells (madeCells #[.slice Option.none 0 0] i) 34)) (n := i) (by unfold maxLen; omega)
            rw [World.size_alloc] at this
            exact ⟨_, this, fun y hy => by omega⟩
          go_wp2
          clear hmk2 hmk3
          generalize (wB.alloc (.cells (madeCells #[.slice Option.none 0 0] i) 34)).alloc (.cells (madeCells #[.int .i64 0] i) 3) = w2 at K0 N0 R0 ⊢
          generalize hgC : wB.heap.size = gC at N0 R0 ⊢
          go_loopw [12] (fun xv wr => ∃ j : Nat, j ≤ i ∧ xv = .int .i64 j ∧ Hid (Kept nothing wB wr) ∧ Hid (∃ Ls : List (List ByteArray), Nest gC wr 9 34 gC i (Ls.map strs) ∧ CompOf A rt j Ls) ∧ Hid (∃ rs, IRow wr (gC + 1) i rs ∧ ∀ y, y < j → rs[y]? = some (rt y))) (fun xv _ => i - (intOf xv).toNat)
          case atStart => exact ⟨0, Nat.zero_le _, by go_num, K0, N0, R0⟩
          case round =>
            clear K0 N0 R0
            obtain ⟨j, hj, rfl, HK, HN, HR⟩ := hrel
            by_cases hlt : j < i
            · obtain ⟨b, hb⟩ : ∃ b, A[j]? = some b := ⟨_, List.getElem?_eq_getElem (by rw [HM.out]; exact hlt)⟩
              have RT := root_any gP i ps rt A (pairs cs) j wr (HIP.out.kept HK.out id) HUF.out hlt (by omega)
              obtain ⟨rs, ir, hrs⟩ := HR.out
              obtain ⟨q0, hq0⟩ : ∃ q, rs[j]? = some q := ⟨_, List.getElem?_eq_getElem (by rw [ir.len]; exact hlt)⟩
              obtain ⟨c0, f0⟩ := ir.cell hq0
              have HIR : Hid (IRow wr (gC + 1) i rs) := ir
              have HRS : Hid (∀ y, y < j → rs[y]? = some (rt y)) := hrs
              have HB : Hid (A[j]? = some b) := hb
              obtain ⟨ga, oa, rfl, d5⟩ := AtA.out j (.string b) (by simp [strs, hb])
              have gl : ga < wB.heap.size := Nat.lt_of_lt_of_le (lt_of_cell d5) HKB.out.size
              replace d5 := (HKB.out.trans HK.out).cell d5 id
              clear ir hrs hq0 hb HR
              go_wp2_with fail
              refine RT.mono ?_
              rintro e w' ⟨⟨r, rfl, q1, d1, -⟩, hw⟩
              obtain rfl := hw.symm
              clear RT hw
              have ir2 := HIR.out.set hlt r
              have kset : Kept (fun k => k = gC + 1) wr (wr.setCell ⟨gC + 1, j, Option.none⟩ (.int .i64 (r : Int))) := Kept.setCell (S := fun k => k = gC + 1) (p := ⟨gC + 1, j, Option.none⟩) (Kept.refl _ _) (.inl rfl) _
              obtain ⟨Ls, nest, comp⟩ := HN.out
              obtain ⟨A3, hA3⟩ := own_obj HIR.out (k := gC + 1) rfl
              have nestS := Nest.keptT nest kset (fun k A' t hk hA' => by
                subst hk
                rw [hA3] at hA'
                simp at hA'
                obtain ⟨_, rfl⟩ := hA'
                decide)
              have d6 : (wr.setCell ⟨gC + 1, j, Option.none⟩ (.int .i64 (r : Int))).cell? ⟨ga, oa + j, Option.none⟩ = some (.string b) := by rw [cell_set_ne _ _ _ (by omega)]; exact d5
              have HK1 : Hid (Kept nothing wB (wr.setCell ⟨gC + 1, j, Option.none⟩ (.int .i64 (r : Int)))) := HK.out.setCell (p := ⟨gC + 1, j, Option.none⟩) (.inr (by show _ ≤ gC + 1; omega)) _
              obtain ⟨l, hl⟩ : ∃ l, Ls[r]? = some l := ⟨_, List.getElem?_eq_getElem (by have := comp.1; rw [HM.out] at this; omega)⟩
              have HIR2 : Hid (IRow (wr.setCell ⟨gC + 1, j, Option.none⟩ (.int .i64 (r : Int))) (gC + 1) i (rs.set j r)) := ir2
              have HNS : Hid (Nest gC (wr.setCell ⟨gC + 1, j, Option.none⟩ (.int .i64 (r : Int))) 9 34 gC i (Ls.map strs)) := nestS
              have HCO : Hid (CompOf A rt j Ls) := comp
              have HLR : Hid (Ls[r]? = some l) := hl
              have HQ1 : Hid (r = rt j) := q1
              clear ir2 kset nest comp nestS hA3 HN HK HIR d5 hl q1
              go_wp2
              clear c0 f0
              generalize wr.setCell ⟨gC + 1, j, Option.none⟩ (.int .i64 (r : Int)) = ws at d6 HK1 HIR2 HNS ⊢
              have kd : Kept nothing ws ws.drew := (Kept.refl _ _).drew
              have nestD := HNS.out.kept kd (fun _ _ => id)
              have hlm : (Ls.map strs)[r]? = some (strs l) := by rw [List.getElem?_map, HLR.out]; rfl
              have hll : l.length ≤ 8192 := by
                have h1 := ((HCO.out.2 r l HLR.out).1).length_le
                rw [List.length_take, HM.out] at h1
                omega
              obtain ⟨ax, cx, a2, n2, c2, w6, e1, e2, f2, hrun, nest2, k2⟩ := nestD.push hlm 34 _ 16 Try.underlying34 info9 rfl (by decide) (.string b) rfl (by rw [strs_len']; omega)
              obtain ⟨ay, cy, ey, oy⟩ := Nest.own nestD hlm
              rw [e1] at ey
              simp only [Option.some.injEq, Value.slice.injEq] at ey
              obtain ⟨rfl, _, rfl⟩ := ey
              rw [strs_len'] at e1 e2 hrun oy
              obtain ⟨A3, hA3⟩ := own_obj HIR2.out (k := gC + 1) rfl
              have hb6 := push_frame (w := ws.drew) (v := .slice ax l.length cx) (l := l) oy (by omega) hrun (k := gC + 1) hA3 (by decide)
              have HIR6 : Hid (∃ rs, IRow (w6.setCell ⟨gC, r, Option.none⟩ (.slice a2 n2 c2)) (gC + 1) i rs ∧ ∀ y, y < j + 1 → rs[y]? = some (rt y)) := ⟨_, own_of_block HIR2.out (by rw [block_set_ne _ _ (by omega), hb6, hA3]), fun y hy => by
                by_cases e : y = j
                · subst e; rw [List.getElem?_set_self (by have := HIR2.out.len; rw [List.length_set] at this; omega), HQ1.out]
                · rw [List.getElem?_set_ne (fun h => e h.symm)]; exact HRS.out y (by omega)⟩
              have HN6 : Hid (∃ Ls : List (List ByteArray), Nest gC (w6.setCell ⟨gC, r, Option.none⟩ (.slice a2 n2 c2)) 9 34 gC i (Ls.map strs) ∧ CompOf A rt (j + 1) Ls) := by
                refine ⟨Ls.set r (l ++ [b]), ?_, ?_⟩
                · rw [List.map_set, show strs (l ++ [b]) = strs l ++ [.string b] from by simp [strs]]
                  exact nest2
                · have := HCO.out.step HB.out (l := l) (by rw [← HQ1.out]; exact HLR.out)
                  rw [← HQ1.out] at this
                  exact this
              have HK6 : Hid (Kept nothing wB (w6.setCell ⟨gC, r, Option.none⟩ (.slice a2 n2 c2))) := kept_from (HK1.out.trans kd) (by rw [hgC]; exact k2)
              replace hrun : (Builtin.append_ #[34, 34] 34 #[.slice ax l.length cx, .slice (some ⟨ws.heap.size, 0, Option.none⟩) 1 1]).run Try.prog (ws.alloc (.cells #[.string b] 9)).drew = .ok (.slice a2 n2 c2) w6 := hrun
              replace e1 : ws.cell? ⟨gC, r, Option.none⟩ = some (.slice ax l.length cx) := e1
              have kal : Kept nothing ws (ws.alloc (.cells #[.string b] 9)) := (Kept.refl _ _).alloc _
              have e4 := kal.cell e1 id
              have d7 := kal.cell d6 id
              obtain ⟨ll, hll0⟩ : ∃ ll, l.length = ll := ⟨_, rfl⟩
              rw [hll0] at e1 e2 e4 hrun hll
              clear kd nestD hlm nest2 k2 oy hA3 hb6 kal hll0 HNS HCO HLR HIR2 HK1
              go_region
              clear hrun e1 e2 e4 d6 d7 f2
              go_wp2
              go_roundw
              case rel => exact ⟨j + 1, by omega, by go_num, HK6.out, HN6, HIR6⟩
              case measure => simp [intOf]; omega
            · obtain rfl : j = i := by omega
              obtain ⟨Ls, nest, comp⟩ := HN.out
              obtain ⟨rs, ir, hrs⟩ := HR.out
              have HNE : Hid (Nest gC wr 9 34 gC j (Ls.map strs)) := nest
              have HCO : Hid (CompOf A rt A.length Ls) := by rw [HM.out]; exact comp
              have HIR : Hid (IRow wr (gC + 1) j rs) := ir
              have HRS : Hid (∀ y, y < j → rs[y]? = some (rt y)) := hrs
              have HKD : Hid (Kept nothing wB wr) := HK.out
              have OV : Hid (Over A (Mutual (both (pairs cs)))) := over_mutual fun p hp => by
                obtain ⟨c, d⟩ := p
                rcases mem_both.1 hp with hp | hp
                · exact HIN.out _ hp
                · exact ⟨(HIN.out _ hp).2, (HIN.out _ hp).1⟩
              clear nest comp ir hrs HN HR HK hlt
              generalize wr = wD at *
              go_wp2
              go_loopw [14, 15] (fun gv xv wr => ∃ (vg : Value) (y : Nat), vg = gv ∧ xv = .int .i64 y ∧ y ≤ j ∧ Hid (∃ L, GInv slt A (Mutual (both (pairs cs))) y L ∧ L.length ≤ y ∧ (∀ l ∈ L, l.length ≤ j) ∧ Grp wr vg L) ∧ Hid (Fresh wD vg) ∧ Hid (Kept nothing wD wr)) (fun _ xv _ => j - (intOf xv).toNat)
              case atStart => exact ⟨_, 0, rfl, by go_num, Nat.zero_le _, ⟨[], GInv.start A, Nat.le_refl _, by simp, Grp.start _⟩, fresh_nil _, Kept.refl _ _⟩
              case round =>
                obtain ⟨vg, y, rfl, rfl, hy, HG, HF, HK⟩ := hrel
                by_cases hlt : y < j
                · obtain ⟨a, ha⟩ : ∃ a, A[y]? = some a := ⟨_, List.getElem?_eq_getElem (by rw [HM.out]; exact hlt)⟩
                  obtain ⟨cR, -⟩ := HIR.out.cell (HRS.out y hlt)
                  replace cR := HK.out.cell cR id
                  by_cases hr : rt y = y
                  · rw [hr] at cR
                    obtain ⟨l, hl⟩ : ∃ l, Ls[y]? = some l := ⟨_, List.getElem?_eq_getElem (by have := HCO.out.1; rw [HM.out] at this; omega)⟩
                    obtain ⟨m1, m2, m3, m4⟩ := HCO.out.group HUF.out HS.out HIN.out ha hr hl
                    rw [HM.out] at m4
                    obtain ⟨ac, cc, eC, oC⟩ := Nest.own HNE.out (i := y) (l := strs l) (by rw [List.getElem?_map, hl]; rfl)
                    rw [strs_len'] at eC oC
                    replace eC := HK.out.cell eC id
                    have oC' : OwnS wr (.slice ac l.length cc) l := ownsRow_keep oC HK.out (fun _ _ => id)
                    obtain ⟨L, g1, g2, g3, g4⟩ := HG.out
                    by_cases hlen : 1 < l.length
                    · obtain ⟨v2, w2', hrun, G5, k2, on2⟩ := g4.push oC' (by omega)
                      have HG2 : Hid (∃ L, GInv slt A (Mutual (both (pairs cs))) (y + 1) L ∧ L.length ≤ y + 1 ∧ (∀ l ∈ L, l.length ≤ j) ∧ Grp w2' v2 L) := ⟨_, g1.add HS.out ha m1 OV.out hlen m2 m3, by simp; omega, fun l' hl' => by
                        rcases List.mem_append.1 hl' with hl' | hl'
                        · exact g3 l' hl'
                        · rw [List.mem_singleton.1 hl']; exact m4, G5⟩
                      have HF2 : Hid (Fresh wD v2) := HF.out.onward HK.out.size on2
                      have HK2 : Hid (Kept nothing wD w2') := HK.out.fresh HF.out k2
                      obtain ⟨ll, hll0⟩ : ∃ ll, l.length = ll := ⟨_, rfl⟩
                      rw [hll0] at eC hrun hlen m4
                      have hlen' : (1 : Int) < (ll : Int) := by omega
                      have HRUN : Hid ((Builtin.append_ #[26, 26] 26 #[vg, .slice (some ⟨wr.heap.size, 0, Option.none⟩) 1 1]).run Try.prog (wr.alloc (.cells #[.slice ac ll cc] 34)) = .ok v2 w2') := hrun
                      clear m1 m2 m3 hl ha hr oC oC' g1 g2 g3 g4 hrun G5 k2 on2 hll0 HG HF HK
                      go_wp2_with (at_builtin; refine wpList_append_run _ rfl (.tmp 117) (.tmp 122) 26 26 rfl _ _ _ w2' rfl rfl HRUN.out ?_)
                      go_roundw
                      case rel => exact ⟨_, y + 1, rfl, by go_num, by omega, HG2, HF2, HK2⟩
                      case measure => simp [intOf]; omega
                    · have HG2 : Hid (∃ L, GInv slt A (Mutual (both (pairs cs))) (y + 1) L ∧ L.length ≤ y + 1 ∧ (∀ l ∈ L, l.length ≤ j) ∧ Grp wr vg L) := ⟨L, g1.alone ha m1 OV.out hlen, by omega, g3, g4⟩
                      obtain ⟨ll, hll0⟩ : ∃ ll, l.length = ll := ⟨_, rfl⟩
                      rw [hll0] at eC hlen
                      clear m1 m2 m3 m4 hl ha hr oC oC' g1 g2 g3 g4 hll0 HG
                      go_wp2
                      go_roundw
                      case rel => exact ⟨_, y + 1, rfl, by go_num, by omega, HG2, HF, HK⟩
                      case measure => simp [intOf]; omega
                  · have HG2 : Hid (∃ L, GInv slt A (Mutual (both (pairs cs))) (y + 1) L ∧ L.length ≤ y + 1 ∧ (∀ l ∈ L, l.length ≤ j) ∧ Grp wr vg L) := by
                      obtain ⟨L, g1, g2, g3, g4⟩ := HG.out
                      exact ⟨L, g1.skip slt_irr HS.out OV.out ha (Root.UF.skipped HUF.out ha hr), by omega, g3, g4⟩
                    obtain ⟨ry, hry⟩ : ∃ ry, rt y = ry := ⟨_, rfl⟩
                    rw [hry] at cR hr
                    have hne : ¬ ((ry : Int) = (y : Int)) := by omega
                    clear ha hry HG
                    go_wp2
                    go_roundw
                    case rel => exact ⟨_, y + 1, rfl, by go_num, by omega, HG2, HF, HK⟩
                    case measure => simp [intOf]; omega
                · obtain rfl : y = j := by omega
                  go_wp2
                  go_ret
                  obtain ⟨L, g1, g2, g3, g4⟩ := HG.out
                  exact ⟨_, L, rfl, g4.at, GInv.done OV.out (by rw [HM.out]; exact g1), KA.out.trans (HKB.out.trans (HKD.out.trans HK.out)), by omega, fun l hl => by have := g3 l hl; omega⟩

end Go.Proofs.Qxb6626223a.Undir
