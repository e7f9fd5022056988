/-
  THE WALK of Cycles.
-/
import Derived.Test.Qxb6626223aLaid
namespace Go.Proofs.Qxb6626223a.CyclesW
open Go.RowKit
open Go.Proofs.Qxb6626223a.Tarjan (upd upd_same upd_other St Inv Ext Post)
open Go.Proofs.Qxb6626223a.MapsV Go.Proofs.Qxb6626223a.Graph Go.Proofs.Qxb6626223a.Canon Go.Proofs.Qxb6626223a.CycPlain Go.Proofs.Qxb6626223a.Lat
open Go.Proofs.Qxb6626223a.Frame Go.Proofs.Qxb6626223a.Order Go.Proofs.Qxb6626223a.Find Go.Proofs.Qxb6626223a.RowsS Go.Proofs.Qxb6626223a.Insert Go.Proofs.Qxb6626223a.Agents Go.Proofs.Qxb6626223a.Same Go.Proofs.Qxb6626223a.Nest Go.Proofs.Qxb6626223a.Index Go.Proofs.Qxb6626223a.Mat Go.Proofs.Qxb6626223a.Rep Go.Proofs.Qxb6626223a.LibC Go.Proofs.Qxb6626223a.Visit Go.Proofs.Qxb6626223a.Laid
set_option linter.unusedVariables false
set_option linter.unusedSimpArgs false

theorem mk33 (w : World) : (Instr.makeMap 33 Option.none).run Try.prog w = .ok (.map (some w.heap.size)) (w.alloc (.map #[] 0)) := by kernel_rfl
theorem mk35 (w : World) : (Instr.makeMap 35 Option.none).run Try.prog w = .ok (.map (some w.heap.size)) (w.alloc (.map #[] 0)) := by kernel_rfl
theorem mk36 (w : World) : (Instr.makeMap 36 Option.none).run Try.prog w = .ok (.map (some w.heap.size)) (w.alloc (.map #[] 0)) := by kernel_rfl

theorem flat2 : ∀ E : List (ByteArray × ByteArray), (E.flatMap fun p => [p.1, p.2]).length = 2 * E.length
  | [] => rfl
  | p :: r => by
    have := flat2 r
    rw [List.flatMap_cons, List.length_append, this]
    simp
    omega

theorem graph_ok {cs : List Q4} (hn : cs.length ≤ 2048) (hsm : ∀ c ∈ cs, c.e.size ≤ 1048576 ∧ c.l.size ≤ 1048576) : ∃ U, GraphOk U (succOf (pairs cs)) ∧ ∀ p ∈ pairs cs, p.1 ∈ U ∧ p.2 ∈ U := by
  obtain ⟨U, u1, u2, u3⟩ := exists_nodup ((pairs cs).flatMap fun p => [p.1, p.2])
  have hin : ∀ p ∈ pairs cs, p.1 ∈ U ∧ p.2 ∈ U := fun p hp => ⟨(u2 _).2 (List.mem_flatMap.2 ⟨p, hp, by simp⟩), (u2 _).2 (List.mem_flatMap.2 ⟨p, hp, by simp⟩)⟩
  have hpl := pairs_len cs
  refine ⟨U, ⟨u1, ?_, fun a _ b hb => (hin _ (mem_succOf.1 hb)).2, fun a ha => ?_, fun a => ?_⟩, hin⟩
  · have := flat2 (pairs cs)
    omega
  · obtain ⟨p, hp, hpa⟩ := List.mem_flatMap.1 ((u2 a).1 ha)
    obtain ⟨c, hc, rfl⟩ := List.mem_map.1 hp
    have := hsm c hc
    simp at hpa
    rcases hpa with rfl | rfl
    · exact this.1
    · exact this.2
  · have := succ_len (pairs cs) a
    omega

theorem kept_from' {w wr w2 : World} (h : Kept nothing w wr) (k : Kept (fun k => w.heap.size ≤ k) wr w2) : Kept nothing w w2 :=
  ⟨k.os.trans h.os, k.tape.trans h.tape, k.output.trans h.output, Nat.le_trans h.size k.size, fun i hi hs => (k.block i (Nat.lt_of_lt_of_le hi h.size) (by omega)).trans (h.block i hi hs)⟩

/-- The search over the keys, the first i behind it. -/
def Search (C : Con) (U : List ByteArray) (E : List (ByteArray × ByteArray)) (K : List ByteArray) (i : Nat) (wr : World) : Prop :=
  ∃ S vS vG, Inv (succOf E) S (fun _ => False) ∧ Rep C U wr S (onS S) vS vG ∧ ∀ a ∈ K.take i, S.idx a ≠ Option.none

attribute [-go_sem] Go.Builtin.append_

set_option maxHeartbeats 1000000 in
set_option maxRecDepth 100000 in
theorem cycles_any (ao : Option Addr) (n cap : Nat) (cs : List Q4) (w : World) (hH : Held w ao cs) (hl : cs.length = n) (hn : n ≤ 2048) (hsm : ∀ c ∈ cs, c.e.size ≤ 1048576 ∧ c.l.size ≤ 1048576) :
    Calls Try.prog 6 #[.slice ao n cap] w fun e w' => ∃ v L, e = .returned v ∧ GroupsAt w' v L ∧ IsGroups slt (Mutual (pairs cs)) L ∧ Kept nothing w w' ∧ L.length ≤ 65536 ∧ ∀ l ∈ L, l.length ≤ 65536 := by
  have HH : Hid (Held w ao cs) := hH
  have HL : Hid (cs.length = n) := hl
  have HSM : Hid (∀ c ∈ cs, c.e.size ≤ 1048576 ∧ c.l.size ≤ 1048576) := hsm
  clear hH hl hsm
  have mk1 := mk33
  go_enter Try.func6, Try.ntmps6
  go_wp2
  clear mk1
  have K0 : Hid (Kept nothing w ((w.alloc (.map #[] 0)).alloc (.cells #[.map (some w.heap.size)] 33))) := ((Kept.refl _ _).alloc _).alloc _
  have O0 : Hid (((w.alloc (.map #[] 0)).alloc (.cells #[.map (some w.heap.size)] 33)).heap[w.heap.size + 1]? = some (.cells #[.map (some w.heap.size)] 33 (0, 0))) := by
    have := block_new (w.alloc (.map #[] 0)) (.cells #[.map (some w.heap.size)] 33)
    rw [World.size_alloc] at this
    exact this
  have L0 : Hid (∃ nn f, Lat w ((w.alloc (.map #[] 0)).alloc (.cells #[.map (some w.heap.size)] 33)) w.heap.size ((pairs cs).take 0) nn f) :=
    ⟨0, _, (IsM.made w).kept ((Kept.refl nothing _).alloc _) id, Nat.zero_le _, fun a _ => rfl, fun a v h => (by cases h), fun a a' v v' k _ h => (by cases h), fun a h => absurd rfl h⟩
  generalize (w.alloc (.map #[] 0)).alloc (.cells #[.map (some w.heap.size)] 33) = w1 at K0 O0 L0 ⊢
  generalize hb0 : w.heap.size = b0 at O0 L0 ⊢
  go_loopw [19] (fun xv wr => ∃ i : Nat, i ≤ n ∧ xv = .int .i64 i ∧ Hid (Kept nothing w wr) ∧ Hid (wr.heap[b0 + 1]? = some (.cells #[.map (some b0)] 33 (0, 0))) ∧ Hid (∃ nn f, Lat w wr b0 ((pairs cs).take i) nn f)) (fun xv _ => n - (intOf xv).toNat)
  case atStart => exact ⟨0, Nat.zero_le _, by go_num, K0, O0, L0⟩
  case round =>
    clear K0 O0 L0
    obtain ⟨i, hi, rfl, HK, HO, HLt⟩ := hrel
    by_cases hlt : i < n
    · obtain ⟨c, hc⟩ : ∃ c, cs[i]? = some c := ⟨_, List.getElem?_eq_getElem (by rw [HL.out]; exact hlt)⟩
      obtain ⟨g, off, rfl, c0, c1, c2, c3⟩ := HH.out i c hc
      replace c0 := HK.out.cell c0 id
      replace c1 := HK.out.cell c1 id
      replace c2 := HK.out.cell c2 id
      replace c3 := HK.out.cell c3 id
      have hse := HSM.out c (List.mem_of_getElem? hc)
      have HTK : Hid ((pairs cs).take (i + 1) = (pairs cs).take i ++ [(c.e, c.l)]) := pairs_take hc
      obtain ⟨ce, cl, cn, ck⟩ := c
      simp only at c0 c1 c2 c3 hse HTK
      have b1 : b0 + 1 < wr.heap.size := lt_of_block HO.out
      have OC : Hid ((wr.alloc (.cells #[.string ce, .string cl, .string cn, .string ck] 32)).heap[b0 + 1]? = some (.cells #[.map (some b0)] 33 (0, 0))) := block_old _ HO.out
      have OS : Hid ((wr.alloc (.cells #[.string ce, .string cl, .string cn, .string ck] 32)).heap[wr.heap.size]? = some (.cells #[.string ce, .string cl, .string cn, .string ck] 32 (0, 0))) := block_new _ _
      have HKc : Hid (Kept nothing w (wr.alloc (.cells #[.string ce, .string cl, .string cn, .string ck] 32))) := HK.out.alloc _
      have HLc : Hid (∃ nn f, Lat w (wr.alloc (.cells #[.string ce, .string cl, .string cn, .string ck] 32)) b0 ((pairs cs).take i) nn f) := by
        obtain ⟨nn, f, h⟩ := HLt.out
        exact ⟨nn, f, h.kept0 ((Kept.refl _ _).alloc _)⟩
      have hsz : (wr.alloc (.cells #[.string ce, .string cl, .string cn, .string ck] 32)).heap.size = wr.heap.size + 1 := World.size_alloc ..
      clear hc HLt HK HO
      go_wp2
      generalize wr.alloc (.cells #[.string ce, .string cl, .string cn, .string ck] 32) = wc at OC OS HKc HLc hsz ⊢
      generalize wr.heap.size = hs at *
      obtain ⟨nn, f, lat⟩ := HLc.out
      have kd : Kept nothing wc wc.drew := (Kept.refl _ _).drew
      obtain ⟨ax, lx, cx, a2, n2, c2', w2, w3, nn', f', lk1, lk2, rn2, rn3, lat3, k3, keep⟩ := (lat.kept0 kd).step (HKc.out.trans kd) (by rw [hb0]; exact Nat.le_refl _) (by rw [List.length_take, pairs_len, HL.out]; omega) (e := ce) (l := cl) (by unfold maxLen; omega)
      rw [← HTK.out] at lat3
      have x1 : wc.cell? ⟨b0 + 1, 0, Option.none⟩ = some (.map (some b0)) := (cell_of OC.out 0).trans rfl
      have y1 : wc.cell? ⟨hs, 0, Option.none⟩ = some (.string ce) := (cell_of OS.out 0).trans rfl
      have y2 : wc.cell? ⟨hs, 1, Option.none⟩ = some (.string cl) := (cell_of OS.out 1).trans rfl
      have oc2 := (keep (b0 + 1) _ _ _ OC.out (by decide)).1
      have os2 := (keep hs _ _ _ OS.out (by decide)).1
      have x3 : w2.cell? ⟨b0 + 1, 0, Option.none⟩ = some (.map (some b0)) := (cell_of oc2 0).trans rfl
      have y3 : w2.cell? ⟨hs, 0, Option.none⟩ = some (.string ce) := (cell_of os2 0).trans rfl
      have ka : Kept nothing wc (wc.alloc (.cells #[.string cl] 9)) := (Kept.refl _ _).alloc _
      have HRUN : Hid ((Builtin.append_ #[34, 34] 34 #[.slice ax lx cx, .slice (some ⟨hs + 1, 0, Option.none⟩) 1 1]).run Try.prog (wc.alloc (.cells #[.string cl] 9)).drew = .ok (.slice a2 n2 c2') w2) := by
        have := rn2
        rw [show wc.drew.heap.size = hs + 1 from hsz] at this
        exact this
      replace lk2 : (Instr.lookup 33 (.map (some b0)) (.string ce) false).run Try.prog (wc.alloc (.cells #[.string cl] 9)).drew = .ok (.slice ax lx cx) (wc.alloc (.cells #[.string cl] 9)).drew := lk2
      have x4 := ka.cell x1 id
      have y4 := ka.cell y1 id
      have y5 := ka.cell y2 id
      have HO3 : Hid (w3.heap[b0 + 1]? = some (.cells #[.map (some b0)] 33 (0, 0))) := (keep (b0 + 1) _ _ _ OC.out (by decide)).2
      have HK3 : Hid (Kept nothing w w3) := k3
      have HL3 : Hid (∃ nn f, Lat w w3 b0 ((pairs cs).take (i + 1)) nn f) := ⟨_, _, lat3⟩
      clear lat kd lat3 k3 keep oc2 os2 ka HLc HKc OC OS c0 c1 c2 c3 rn2
      have rn4 := HRUN.out
      go_region
      clear rn4 rn3 lk1 lk2 x1 y1 y2 x3 y3 x4 y4 y5 HRUN hsz b1
      go_wp2
      go_roundw
      case rel => exact ⟨i + 1, by omega, by go_num, HK3, HO3, HL3⟩
      case measure => simp [intOf]; omega
    · obtain rfl : i = n := by omega
      obtain ⟨nn, f, lat⟩ := HLt.out
      rw [List.take_of_length_le (by rw [pairs_len, HL.out]; exact Nat.le_refl _)] at lat
      have LAT : Hid (Lat w wr b0 (pairs cs) nn f) := lat
      have mk2 := mk35
      have mk3 := mk36
      have hst : ∀ (W : World) (a : Addr) (cb : Array Value), Sem.run Try.prog (store a (.func (.func 12) #[] cb)) W = stored Try.prog W a (.func (.func 12) #[] cb) .plain := fun W a cb => run_store Try.prog W a _ _ rfl
      clear lat HLt
      generalize wr = wL at *
      have hX := laid_is wL rfl b0
      generalize hwX : l5 wL wL.heap.size b0 = wX at hX
      simp only [l5, l4, l3, l2, l1, fnv, ptr] at hwX
      have HX : Hid (IsLaid wL wL.heap.size b0 wX) := hX
      have x1 : wX.cell? ⟨b0 + 1, 0, Option.none⟩ = some (.map (some b0)) := (cell_of (hX.kept.at HO.out id) 0).trans rfl
      have b1 : b0 + 1 < wL.heap.size := lt_of_block HO.out
      have HKL0 : Hid (w.heap.size ≤ wL.heap.size) := HK.out.size
      clear hX
      go_wp2_with fail
      clear hwX mk2 mk3 hst x1
      generalize hh : wL.heap.size = h at *
      refine (keys_any b0 wX).mono ?_
      rintro e w' ⟨rfl, rfl⟩
      have hnn : nn ≤ 2048 := by have := LAT.out.len; rw [pairs_len, HL.out] at this; omega
      have SK := sorted_any b0 nn f wX (LAT.out.map.kept HX.out.kept id) (by omega)
      go_wp2_with fail
      refine SK.mono ?_
      rintro e wK ⟨vK, K, rfl, oK, hKm, hKl, kK, fK⟩
      clear SK
      obtain ⟨aK, cK, hvK, hcK, _, atK, obK⟩ := own_at oK
      subst hvK
      have HKK : Hid (∀ s, s ∈ K ↔ f s ≠ Option.none) := hKm
      have HKL : Hid (K.length = nn) := hKl
      have ATK : Hid (At wK aK (strs K)) := atK
      have hKv : ∀ p, aK = some p → h + 9 ≤ p.block ∧ p.block < wK.heap.size := fun p hp => by
        have h1 := fK _ (obK p hp)
        have h2 := ownsRow_lt oK (obK p hp)
        have h3 := HX.out.size
        omega
      have HKV : Hid (∀ p, aK = some p → ¬ Var (con h b0 wK.heap.size nn f) p.block) := fun p hp => by
        have := hKv p hp
        simp only [con, Var]
        omega
      obtain ⟨U, hg, hin⟩ := graph_ok (cs := cs) (by rw [HL.out]; omega) HSM.out
      have HG : Hid (GraphOk U (succOf (pairs cs))) := hg
      have HIN : Hid (∀ p ∈ pairs cs, p.1 ∈ U ∧ p.2 ∈ U) := hin
      have hsz : h + 9 ≤ wK.heap.size := by have := kK.size; have := HX.out.size; omega
      have HCO : Hid ((con h b0 wK.heap.size nn f).Ok) := con_ok nn f b1 hsz
      have HFX : Hid (Fixed (con h b0 wK.heap.size nn f) (succOf (pairs cs)) wK) := con_fixed LAT.out hh HO.out HX.out kK
      have S0' : Hid (Search (con h b0 wK.heap.size nn f) U (pairs cs) K 0 wK) := ⟨S0, _, _, inv0 _, con_rep HX.out kK U, by simp⟩
      have HKW : Hid (Kept nothing w wK) := HK.out.trans (HX.out.kept.trans kK)
      rw [hKl]
      clear oK hKm hKl kK fK hcK atK obK hKv hg hin HX HK HO
      go_wp2
      generalize hB0 : wK.heap.size = B0 at HKV HCO HFX S0' hsz
      go_loopw [43] (fun xv wr => ∃ i : Nat, i ≤ nn ∧ xv = .int .i64 i ∧ Hid (Search (con h b0 B0 nn f) U (pairs cs) K i wr) ∧ Hid (Kept (Var (con h b0 B0 nn f)) wK wr)) (fun xv _ => nn - (intOf xv).toNat)
      case atStart => exact ⟨0, Nat.zero_le _, by go_num, S0', Kept.refl _ _⟩
      case round =>
        clear S0'
        obtain ⟨j, hj, rfl, HS, HKr⟩ := hrel
        obtain ⟨S, vS, vG, inv, rep, allv⟩ := HS.out
        have fix := HFX.out.kept HCO.out HKr.out
        by_cases hlt : j < nn
        · obtain ⟨a, ha⟩ : ∃ a, K[j]? = some a := ⟨_, List.getElem?_eq_getElem (by rw [HKL.out]; exact hlt)⟩
          have hfa := (HKK.out a).1 (List.mem_of_getElem? ha)
          have haU : a ∈ U := by
            obtain ⟨p, hp, rfl⟩ := LAT.out.key a hfa
            exact (HIN.out p hp).1
          have hsa : a.size ≤ maxLen := by have := HG.out.size a haU; unfold maxLen; omega
          obtain ⟨gk, ok, rfl, d1⟩ := ATK.out j (.string a) (by simp [strs, ha])
          replace d1 := HKr.out.cell d1 (HKV.out ⟨gk, ok, Option.none⟩ rfl)
          have cI : wr.cell? ⟨h + 1 + 1, 0, Option.none⟩ = some (.map (some h)) := fix.cI
          have hlk := rep.idx.look_ok Try.underlying35 (zero3 wr) hsa
          replace hlk : (Instr.lookup 35 (.map (some h)) (.string a) true).run Try.prog wr = .ok (.tuple #[((S.idx a).map iV).getD (.int .i64 0), .bool ((S.idx a).map iV).isSome]) wr := hlk
          have htk : K.take (j + 1) = K.take j ++ [a] := by rw [List.take_add_one, ha]; rfl
          cases hSa : S.idx a with
          | none =>
            rw [hSa] at hlk
            simp only [Option.map_none, Option.getD_none, Option.isSome_none] at hlk
            have cV : wr.cell? ⟨h + 1 + 1 + 1 + 1 + 1 + 1 + 1 + 1, 0, Option.none⟩ = some (fnv h b0) := fix.cV
            unfold fnv ptr at cV
            have CV := visit_all (con h b0 B0 nn f) HCO.out U (succOf (pairs cs)) HG.out (unv U S.idx) S (fun _ => False) wr a vS vG (Nat.le_refl _) haU hSa inv (fun g hg => hg.elim) fix rep (by show B0 ≤ wr.heap.size; rw [← hB0]; exact HKr.out.size)
            unfold ptr at CV
            simp only [con] at CV
            have HTK : Hid (K.take (j + 1) = K.take j ++ [a]) := htk
            have HAV : Hid (∀ a ∈ K.take j, S.idx a ≠ Option.none) := allv
            clear ha hfa htk allv rep inv fix HS
            go_wp2_with fail
            refine CV.mono ?_
            rintro e w' ⟨rfl, S', vS', vG', rep', post, k'⟩
            clear CV
            have HS2 : Hid (Search (con h b0 B0 nn f) U (pairs cs) K (j + 1) w') := by
              refine ⟨S', vS', vG', post.inv, rep', fun x hx => ?_⟩
              rw [HTK.out] at hx
              rcases List.mem_append.1 hx with hx | hx
              · exact post.ext.keeps (HAV.out x hx)
              · rw [List.mem_singleton.1 hx]; exact post.vis
            have HK2 : Hid (Kept (Var (con h b0 B0 nn f)) wK w') := HKr.out.trans k'
            clear rep' post k' d1 cI hlk cV HKr
            go_wp2
            go_roundw
            case rel => exact ⟨j + 1, by omega, by go_num, HS2, HK2⟩
            case measure => simp [intOf]; omega
          | some na =>
            rw [hSa] at hlk
            simp only [Option.map_some, Option.getD_some, Option.isSome_some, iV] at hlk
            have HS2 : Hid (Search (con h b0 B0 nn f) U (pairs cs) K (j + 1) wr) := by
              refine ⟨S, vS, vG, inv, rep, fun x hx => ?_⟩
              rw [htk] at hx
              rcases List.mem_append.1 hx with hx | hx
              · exact allv x hx
              · rw [List.mem_singleton.1 hx, hSa]; simp
            clear ha hfa htk allv rep inv fix HS hSa
            go_wp2
            go_roundw
            case rel => exact ⟨j + 1, by omega, by go_num, HS2, HKr⟩
            case measure => simp [intOf]; omega
        · obtain rfl : j = nn := by omega
          rw [List.take_of_length_le (by rw [HKL.out]; exact Nat.le_refl _)] at allv
          have hk : ∀ a, succOf (pairs cs) a ≠ [] → S.idx a ≠ Option.none := fun a ha => allv a ((HKK.out a).2 fun hf => ha (LAT.out.empty a hf))
          obtain ⟨L, gs, hL, hown, hinn⟩ := rep.rows.grp
          have cG : wr.cell? ⟨h + 1 + 1 + 1 + 1 + 1 + 1 + 1, 0, Option.none⟩ = some vG := rep.cellG.1
          have hUl : S.cnt ≤ 8192 := by have := rep.cnt; have := HG.out.len; omega
          have hLl : L.length ≤ 8192 := by have := hL.len; have := comps_len inv; omega
          have hll : ∀ l ∈ L, l.length ≤ 8192 := fun l hl => by
            obtain ⟨_, _, c, hc, hp⟩ := hL.each l hl
            have := comp_len inv hc
            rw [hp.length_eq]
            omega
          have HKF : Hid (Kept nothing w wr) := kept_from' HKW.out (HKr.out.mono fun k _ hv => by
            have h1 := HKW.out.size
            simp only [con, Var] at hv
            have h2 := hh
            have h3 := HKL0.out
            omega)
          have hfG := rep.rows.frG
          rcases hown.2 with ⟨hv0, hl0⟩ | ⟨g, cap', cur, hv, -⟩
          · subst hv0
            have hLn : L = [] := List.eq_nil_of_length_eq_zero hl0
            subst hLn
            have RES : Hid (GroupsAt wr (.slice Option.none 0 0) [] ∧ IsGroups slt (Mutual (pairs cs)) []) := ⟨⟨Option.none, 0, [], rfl, rfl, fun i x hx => by simp at hx, fun i u l hu => by simp at hu⟩, groups_end inv hk hL (List.Perm.refl _) (by simp)⟩
            have SF := sortFunc_none Option.none 0 (.func (.func 19) #[] #[]) wr
            clear inv rep allv hk hL hown hinn hll hfG HS fix HKr
            go_wp2_with fail
            refine SF.mono ?_
            rintro e w' ⟨rfl, hw⟩
            obtain rfl := hw.symm
            clear SF hw
            go_wp2
            go_ret
            exact ⟨_, [], rfl, RES.out.1, RES.out.2, HKF.out, by simp, by simp⟩
          · subst hv
            have SF := sortFunc_any g L.length cap' gs L wr hown rfl (by omega) (fun i u l hu hl => by
              obtain ⟨o, fr⟩ := hinn i u l hu hl
              obtain ⟨ai, ci, e, _, _, at1, ob⟩ := own_at o
              exact ⟨ai, ci, e, at1, by have := hll l (List.mem_of_getElem? hl); show l.length ≤ 65536; omega, fun p hp e' => own_apart o hown (by decide) (ob p hp) (by rw [e']; rfl)⟩)
            have HINV : Hid (Inv (succOf (pairs cs)) S (fun _ => False)) := inv
            have HKE : Hid (∀ a, succOf (pairs cs) a ≠ [] → S.idx a ≠ Option.none) := hk
            have HGO : Hid (GrpOf S.comps L) := hL
            have HLL : Hid (∀ l ∈ L, l.length ≤ 8192) := hll
            have hgB : B0 ≤ g := hfG g rfl
            have hgw : w.heap.size ≤ g := by
              have h1 := HKW.out.size
              omega
            obtain ⟨ln, hln⟩ : ∃ ln, L.length = ln := ⟨_, rfl⟩
            have HLN : Hid (L.length = ln) := hln
            rw [hln] at SF cG hLl
            have HCG : Hid (wr.cell? ⟨h + 1 + 1 + 1 + 1 + 1 + 1 + 1, 0, Option.none⟩ = some (.slice (some ⟨g, 0, Option.none⟩) ln cap')) := cG
            clear inv rep allv hk hL hown hinn hll hfG HS fix HKr hln
            go_wp2_with fail
            refine SF.mono ?_
            rintro e w9 ⟨rfl, L', gs', hperm, hsort, o9, hin9, k9⟩
            clear SF
            have cG9 := k9.cell HCG.out (by show ¬ (h + 1 + 1 + 1 + 1 + 1 + 1 + 1 = g); omega)
            have hL' : L'.length = ln := by rw [hperm.length_eq]; exact HLN.out
            have RES : Hid (GroupsAt w9 (.slice (some ⟨g, 0, Option.none⟩) ln cap') L') := by
              obtain ⟨ao', cap2, e, _, _, at9, _⟩ := own_at o9
              refine ⟨ao', cap2, gs', by rw [hL']; exact e, by have := o9.1; omega, at9, fun i u l hu hl => ?_⟩
              obtain ⟨ai, ci, e', at1, _⟩ := hin9 i u l hu hl
              exact ⟨ai, ci, e', at1⟩
            have RES2 : Hid (IsGroups slt (Mutual (pairs cs)) L') := groups_end HINV.out HKE.out HGO.out hperm (hsort.imp fun {a b} h => by omega)
            have HK9 : Hid (Kept nothing w w9) := kept_from' HKF.out (k9.mono fun k _ e => by rw [e]; exact hgw)
            have HLL9 : Hid (∀ l ∈ L', l.length ≤ 65536) := fun l hl => by
              have := HLL.out l (hperm.mem_iff.1 hl)
              omega
            have HL9 : Hid (L'.length ≤ 65536) := by show _ ≤ _; omega
            clear hperm hsort o9 hin9 k9 hL' cG
            go_wp2
            go_ret
            exact ⟨_, L', rfl, RES.out, RES2.out, HK9.out, HL9.out, HLL9.out⟩

end Go.Proofs.Qxb6626223a.CyclesW
