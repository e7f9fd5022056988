/-
  THE WALK of Cycles$1.
-/
import Derived.Test.Qxb6626223aRep3
namespace Go.Proofs.Qxb6626223a.Visit
open Go.RowKit
open Go.Proofs.Qxb6626223a.Tarjan (upd upd_same upd_other St Inv Ext Post Loop loop_start)
open Go.Proofs.Qxb6626223a.MapsV Go.Proofs.Qxb6626223a.Ops
open Go.Proofs.Qxb6626223a.Canon
open Go.Proofs.Qxb6626223a.Frame Go.Proofs.Qxb6626223a.Order Go.Proofs.Qxb6626223a.Find Go.Proofs.Qxb6626223a.RowsS Go.Proofs.Qxb6626223a.Insert Go.Proofs.Qxb6626223a.Agents Go.Proofs.Qxb6626223a.Same Go.Proofs.Qxb6626223a.Nest Go.Proofs.Qxb6626223a.Index Go.Proofs.Qxb6626223a.Mat Go.Proofs.Qxb6626223a.Rep Go.Proofs.Qxb6626223a.LibC
set_option linter.unusedVariables false
set_option linter.unusedSimpArgs false

/-- What is asked of the graph. -/
structure GraphOk (U : List ByteArray) (succ : ByteArray → List ByteArray) : Prop where
  nodup : U.Nodup
  len : U.length ≤ 8192
  closed : ∀ a ∈ U, ∀ b ∈ succ a, b ∈ U
  size : ∀ a ∈ U, a.size ≤ 1048576
  deg : ∀ a, (succ a).length ≤ 8192

/-- Behind the visit. -/
def Done (C : Con) (U : List ByteArray) (succ : ByteArray → List ByteArray) (G : ByteArray → Prop) (S : St ByteArray) (a : ByteArray) (w w' : World) : Prop :=
  ∃ S' vS' vG', Rep C U w' S' (onS S') vS' vG' ∧ Post succ G S a S' ∧ Kept (Var C) w w'

/-- The contract, for at most k agents not visited. -/
def VisitAt (C : Con) (U : List ByteArray) (succ : ByteArray → List ByteArray) (k : Nat) : Prop :=
  ∀ (S : St ByteArray) (G : ByteArray → Prop) (w : World) (a : ByteArray) (vS vG : Value), unv U S.idx ≤ k → a ∈ U → S.idx a = Option.none → Inv succ S G → (∀ g, G g → Tarjan.Reach succ g a) → Fixed C succ w → Rep C U w S (onS S) vS vG → C.B0 ≤ w.heap.size →
    Calls Try.prog 12 #[.string a, ptr C.bI, ptr C.bL, ptr C.bS, ptr C.bO, ptr C.bLa, ptr C.bV, ptr C.bG] w fun e w' => e = .returned (.tuple #[]) ∧ Done C U succ G S a w w'

theorem Rep.kept0 {C : Con} {U : List ByteArray} {w w' : World} {S : St ByteArray} {onf : ByteArray → Bool} {vS vG : Value} (h : Rep C U w S onf vS vG) (hk : Kept nothing w w') : Rep C U w' S onf vS vG :=
  ⟨h.rows.kept hk fun k _ h => h.elim, h.idx.kept hk id, h.low.kept hk id, h.on.kept hk id, h.cnt⟩
theorem kept_drew (S : Nat → Prop) (w : World) : Kept S w w.drew := (Kept.refl _ _).drew

theorem nodup_map {α β : Type} {l : List α} {f : α → β} (h : l.Nodup) (hf : ∀ x ∈ l, ∀ y ∈ l, f x = f y → x = y) : (l.map f).Nodup := by
  unfold List.Nodup at *
  rw [List.pairwise_map]
  exact h.imp_of_mem fun {a b} ha hb hne e => hne (hf a ha b hb e)

theorem stack_len {succ : ByteArray → List ByteArray} {S : St ByteArray} {G : ByteArray → Prop} (h : Inv succ S G) : S.stack.length ≤ S.cnt := by
  have hn : (S.stack.map fun v => (S.idx v).getD 0).Nodup := nodup_map h.nodup fun x hx y hy e => by
    obtain ⟨n, hn⟩ := h.vis x hx
    obtain ⟨m, hm⟩ := h.vis y hy
    rw [hn, hm] at e
    simp only [Option.getD_some] at e
    subst e
    exact h.inj x y n hn hm
  have := nodup_sub_len hn (U := List.range S.cnt) fun v hv => by
    obtain ⟨x, hx, rfl⟩ := List.mem_map.1 hv
    obtain ⟨n, hn⟩ := h.vis x hx
    rw [hn, List.mem_range]
    exact h.lt x n hn
  simpa using this

theorem comps_len {succ : ByteArray → List ByteArray} {S : St ByteArray} {G : ByteArray → Prop} (h : Inv succ S G) : S.comps.length ≤ S.cnt := by
  have key : ∀ c ∈ S.comps, ∃ x n, x ∈ c ∧ c.head? = some x ∧ S.idx x = some n := fun c hc => by
    obtain ⟨h1, _⟩ := h.comp c hc
    match c, hc, h1 with
    | x :: r, hc, _ =>
      have := ((h.cover x).2 ⟨_, hc, by simp⟩).1
      cases hx : S.idx x with
      | none => exact absurd hx this
      | some n => exact ⟨x, n, by simp, rfl, hx⟩
  have hn : (S.comps.map fun c => (c.head?.bind S.idx).getD 0).Nodup := by
    unfold List.Nodup
    rw [List.pairwise_map]
    refine h.disj.imp_of_mem fun {c d} hc hd hcd e => ?_
    obtain ⟨x, n, x1, x2, x3⟩ := key c hc
    obtain ⟨y, m, y1, y2, y3⟩ := key d hd
    rw [x2, y2] at e
    simp only [Option.bind_some, x3, y3, Option.getD_some] at e
    subst e
    have := h.inj x y n x3 y3
    subst this
    exact hcd x x1 y1
  have := nodup_sub_len hn (U := List.range S.cnt) fun v hv => by
    obtain ⟨c, hc, rfl⟩ := List.mem_map.1 hv
    obtain ⟨x, n, x1, x2, x3⟩ := key c hc
    rw [x2]
    simp only [Option.bind_some, x3, Option.getD_some]
    rw [List.mem_range]
    exact h.lt x n x3
  simpa using this

theorem zero34 (w : World) : (zeroValue 34).run Try.prog w = .ok (.slice Option.none 0 0) w := by kernel_rfl
theorem zero3 (w : World) : (zeroValue 3).run Try.prog w = .ok (.int .i64 0) w := by kernel_rfl
theorem zero4 (w : World) : (zeroValue 4).run Try.prog w = .ok (.bool false) w := by kernel_rfl

theorem key_size {w : World} {b n : Nat} {f : ByteArray → Option Value} (h : IsM w b n f) {s : ByteArray} (hs : f s ≠ Option.none) : s.size ≤ maxLen := by
  obtain ⟨D, h1, _, h3⟩ := h
  have hk : Maps.has D (kl s) = true := by
    cases hf : f s with
    | none => exact absurd hf hs
    | some v => exact ((h3 s).2 v hf).1
  have := strKeys_le h1 Try.underlying9 _ ((mem_keys h1 s).2 hk)
  simpa [toB] using this

/-- What later[a] is. -/
theorem Fixed.val {C : Con} {succ : ByteArray → List ByteArray} {w : World} (h : Fixed C succ w) (a : ByteArray) :
    ∃ al cl, (C.fLat a).getD (.slice Option.none 0 0) = .slice al (succ a).length cl ∧ At w al (strs (succ a)) ∧ ∀ p, al = some p → ¬ Var C p.block := by
  cases hf : C.fLat a with
  | none =>
    have he := h.empty a hf
    refine ⟨Option.none, 0, ?_, fun i x hx => by rw [he] at hx; simp [strs] at hx, fun p hp => by cases hp⟩
    rw [he]
    rfl
  | some v =>
    obtain ⟨ao, cap, rfl, ha, hb⟩ := h.rows a v hf
    exact ⟨ao, cap, rfl, ha, hb⟩

/-- Inside the visit, the first i successors behind it. -/
def Mid (C : Con) (U : List ByteArray) (succ : ByteArray → List ByteArray) (G : ByteArray → Prop) (S : St ByteArray) (a : ByteArray) (w : World) (i : Nat) (wr : World) : Prop :=
  ∃ T vS vG, Tarjan.Loop succ G S a ((succ a).take i) T ∧ Rep C U wr T (onS T) vS vG ∧ Kept (Var C) w wr

set_option maxHeartbeats 1000000 in
set_option maxRecDepth 100000 in
theorem visit_step (C : Con) (ok : C.Ok) (U : List ByteArray) (succ : ByteArray → List ByteArray) (hg : GraphOk U succ) (k : Nat) (IH : VisitAt C U succ k) : VisitAt C U succ (k + 1) := by
  intro S G w a vS vG hk ha hi hinv hreach hfix hrep hB
  have hoff := hinv.white_off hi
  have hstl : S.stack.length ≤ 65536 := by
    have := stack_len hinv
    have := hrep.cnt
    have := hg.len
    omega
  obtain ⟨w1, w2, a2, n2, c2, w3, w5, run1, run2, cs2, run3, cs3, fs3, run5, rep5, k1, k2, k3, k5⟩ := (Rep.kept0 hrep (kept_drew _ w)).begin ok hB hg.nodup (by have := hg.len; omega) ha hi hoff (by have := hg.size a ha; unfold maxLen; omega) hstl
  have hlen := (Rep.kept0 hrep (kept_drew _ w)).idx.len Try.underlying35 3
  have cI := hfix.cI
  have cL := hfix.cL
  have H1 : Hid ((Instr.mapUpdate 35 (.map (some C.mI)) (.string a) (iV S.cnt)).run Try.prog w.drew = .ok () w1) := run1
  have H2 : Hid ((Instr.mapUpdate 35 (.map (some C.mL)) (.string a) (iV S.cnt)).run Try.prog w1 = .ok () w2) := run2
  have kd := kept_drew (Var C) w
  have fix1 := hfix.kept ok (kd.trans k1)
  have cI1 := fix1.cI
  have cL1 := fix1.cL
  have HINV : Hid (Inv succ S G) := hinv
  have HFW : Hid (Fixed C succ w) := hfix
  have HCS : Hid (S.cnt + unv U S.idx = U.length) := hrep.cnt
  have HIH : Hid (VisitAt C U succ k) := IH
  have HREACH : Hid (∀ g, G g → Tarjan.Reach succ g a) := hreach
  have HI0 : Hid (S.idx a = Option.none) := hi
  have HF5 : Hid (Fixed C succ w5) := ((fix1.kept ok k2).kept ok k3).kept ok k5
  have HK5 : Hid (Kept (Var C) w w5) := (((kd.trans k1).trans k2).trans k3).trans k5
  have HR5 : Hid (Rep C U w5 (S.push a) (onS (S.push a)) (.slice a2 n2 c2) vG) := rep5
  have H3 : Hid ((Builtin.append_ #[34, 34] 34 #[vS, .slice (some ⟨w2.heap.size, 0, Option.none⟩) 1 1]).run Try.prog (w2.alloc (.cells #[.string a] 9)) = .ok (.slice a2 n2 c2) w3) := run3
  have H5 : Hid ((Instr.mapUpdate 36 (.map (some C.mO)) (.string a) (.bool true)).run Try.prog (w3.setCell ⟨C.bS, 0, Option.none⟩ (.slice a2 n2 c2)) = .ok () w5) := run5
  have cO4 := ((fix1.kept ok k2).kept ok k3).cO
  have HC2 : Hid (w2.cell? ⟨C.bS, 0, Option.none⟩ = some vS) := cs2
  have HC3 : Hid (w3.cell? ⟨C.bS, 0, Option.none⟩ = some vS ∧ w3.frozen? ⟨C.bS, 0, Option.none⟩ = false) := ⟨cs3, fs3⟩
  have HC4 : Hid ((w3.setCell ⟨C.bS, 0, Option.none⟩ (.slice a2 n2 c2)).cell? ⟨C.bO, 0, Option.none⟩ = some (.map (some C.mO))) := cO4
  unfold iV at H1 H2
  clear IH kd run1 run2 run3 run5 rep5 k1 k2 k3 k5 hrep hfix fix1 hinv hreach hi hoff cs2 cs3 fs3 cO4
  have r1 := H1.out
  have r2 := H2.out
  clear H1 H2
  unfold ptr
  go_enter Try.func12, Try.ntmps12
  go_wp2
  go_region
  clear r1 r2 cI cL cI1 cL1 hlen
  have cs2 := HC2.out
  obtain ⟨cs3, fs3⟩ := HC3.out
  have cO4 := HC4.out
  have r5 := H5.out
  have hsa : a.size ≤ maxLen := by have := hg.size a ha; unfold maxLen; omega
  obtain ⟨al, cl, hval, atl, nvl⟩ := Fixed.val HFW.out a
  have hlook := HF5.out.later.look Try.underlying33 (zero34 w5) hsa
  have cLa := HF5.out.cLa
  have ATL : Hid (At w al (strs (succ a))) := atl
  have NVL : Hid (∀ p, al = some p → ¬ Var C p.block) := nvl
  obtain ⟨dn, hdn⟩ : ∃ dn, (succ a).length = dn := ⟨_, rfl⟩
  have HDN : Hid ((succ a).length = dn) := hdn
  have hdb : dn ≤ 8192 := by have := hg.deg a; omega
  rw [hval, hdn] at hlook
  have M0 : Hid (Mid C U succ G S a w 0 w5) := ⟨_, _, _, loop_start HINV.out HI0.out HREACH.out, HR5.out, HK5.out⟩
  clear atl nvl hval hdn HC2 HC3 HC4 H5 HR5 HK5
  go_wp2_with (at_builtin; refine wpList_append_run _ rfl (.tmp 25) (.tmp 27) 34 34 rfl _ _ _ w3 rfl rfl H3.out ?_)
  clear hlook cs2 cs3 fs3 cO4 r5 cLa H3
  go_loopw [35] (fun xv wr => ∃ i : Nat, i ≤ dn ∧ xv = .int .i64 i ∧ Hid (Mid C U succ G S a w i wr)) (fun xv _ => dn - (intOf xv).toNat)
  case atStart => exact ⟨0, Nat.zero_le _, by go_num, M0⟩
  case round =>
    clear M0
    obtain ⟨i, hi, rfl, HM⟩ := hrel
    by_cases hlt : i < dn
    · obtain ⟨T, vS', vG', L, rep, kw⟩ := HM.out
      obtain ⟨b, hb⟩ : ∃ b, (succ a)[i]? = some b := ⟨_, List.getElem?_eq_getElem (by rw [HDN.out]; exact hlt)⟩
      have hbm : b ∈ succ a := List.mem_of_getElem? hb
      have hbU : b ∈ U := hg.closed a ha b hbm
      have hsb : b.size ≤ maxLen := by have := hg.size b hbU; unfold maxLen; omega
      have fix := HFW.out.kept ok kw
      obtain ⟨gl, ol, rfl, d1⟩ := ATL.out i (.string b) (by simp [strs, hb])
      replace d1 := kw.cell d1 (NVL.out ⟨gl, ol, Option.none⟩ rfl)
      have htk : (succ a).take (i + 1) = (succ a).take i ++ [b] := by rw [List.take_add_one, hb]; rfl
      have hlk := rep.idx.look_ok Try.underlying35 (zero3 wr) hsb
      have cI := fix.cI
      have HFX : Hid (Fixed C succ wr) := fix
      have HKW : Hid (Kept (Var C) w wr) := kw
      have HL : Hid (Tarjan.Loop succ G S a ((succ a).take i) T) := L
      have HREP : Hid (Rep C U wr T (onS T) vS' vG') := rep
      have HTK : Hid ((succ a).take (i + 1) = (succ a).take i ++ [b]) := htk
      have HBM : Hid (b ∈ succ a) := hbm
      have hTa : T.idx a = some S.cnt := L.ida
      cases hTb : T.idx b with
      | none =>
        have HTB : Hid (T.idx b = Option.none) := hTb
        have HTA : Hid (T.idx a = some S.cnt) := hTa
        rw [hTb] at hlk
        simp only [Option.map_none, Option.getD_none, Option.isSome_none] at hlk
        have cV := fix.cV
        unfold Con.caps ptr at cV
        have CV := HIH.out T (fun g => g = a ∨ G g) wr b vS' vG' (by
            have h1 := rep.cnt
            have h2 := HCS.out
            have h3 := L.inv.lt a _ hTa
            omega) hbU hTb L.inv (by
            rintro g (rfl | hgg)
            · exact .edge hbm
            · exact (HREACH.out g hgg).trans (.edge hbm)) fix rep (Nat.le_trans hB kw.size)
        unfold ptr at CV
        clear L rep kw fix hb hbm htk hTa hTb HM
        go_wp2_with fail
        refine CV.mono ?_
        rintro e w' ⟨rfl, T', vS2, vG2, rep', post, k'⟩
        clear CV
        have fix' := HFX.out.kept ok k'
        have cL' := fix'.cL
        have hTa' := post.ext.idx a _ HTA.out
        have hla := rep'.low.look Try.underlying35 (zero3 w') hsa
        have hlb := rep'.low.look Try.underlying35 (zero3 w') hsb
        rw [hTa'] at hla
        cases hTb' : T'.idx b with
        | none => exact absurd hTb' post.vis
        | some nb =>
          rw [hTb'] at hlb
          simp only [Option.map_some, Option.getD_some, iV] at hla hlb
          obtain ⟨w6, run6, rep6, k6⟩ := rep'.setLow ok (a := a) (by rw [hTa']; simp) hsa (by have := hg.len; omega) (min (T'.low a) (T'.low b))
          unfold iV at run6
          have M1 : Hid (Mid C U succ G S a w (i + 1) w6) := by
            refine ⟨_, vS2, vG2, ?_, rep6, (HKW.out.trans k').trans k6⟩
            rw [HTK.out]
            exact HL.out.visited HBM.out HTB.out post
          rw [show ((min (T'.low a) (T'.low b) : Nat) : Int) = min (T'.low a : Int) (T'.low b : Int) from by omega] at run6
          clear rep' post k' fix' rep6 k6 hTb' hTa' d1 hlk cI cV
          go_wp2
          go_roundw
          case rel => exact ⟨i + 1, by omega, by go_num, M1⟩
          case measure => simp [intOf]; omega
      | some nb =>
        rw [hTb] at hlk
        simp only [Option.map_some, Option.getD_some, Option.isSome_some, iV] at hlk
        have hon := rep.on.look Try.underlying36 (zero4 wr) hsb
        rw [hTb] at hon
        simp only [Option.map_some, Option.getD_some] at hon
        have cO := fix.cO
        by_cases hin : b ∈ T.stack
        · unfold onS at hon
          rw [tb_true hin] at hon
          have hla := rep.low.look Try.underlying35 (zero3 wr) hsa
          have hib := rep.idx.look Try.underlying35 (zero3 wr) hsb
          rw [hTa] at hla
          rw [hTb] at hib
          simp only [Option.map_some, Option.getD_some, iV] at hla hib
          have cL := fix.cL
          obtain ⟨w6, run6, rep6, k6⟩ := rep.setLow ok (a := a) (by rw [hTa]; simp) hsa (by have := hg.len; omega) (min (T.low a) nb)
          unfold iV at run6
          have M1 : Hid (Mid C U succ G S a w (i + 1) w6) := by
            refine ⟨_, vS', vG', ?_, rep6, kw.trans k6⟩
            rw [HTK.out]
            exact L.on hbm hin hTb
          rw [show ((min (T.low a) nb : Nat) : Int) = min (T.low a : Int) (nb : Int) from by omega] at run6
          clear L rep kw fix hb hbm htk hTa hTb HM hin rep6 k6
          go_wp2
          go_roundw
          case rel => exact ⟨i + 1, by omega, by go_num, M1⟩
          case measure => simp [intOf]; omega
        · unfold onS at hon
          rw [tb_false hin] at hon
          have M1 : Hid (Mid C U succ G S a w (i + 1) wr) := by
            refine ⟨_, vS', vG', ?_, rep, kw⟩
            rw [HTK.out]
            exact L.off hin (by rw [hTb]; simp)
          clear L rep kw fix hb hbm htk hTa hTb HM hin
          go_wp2
          go_roundw
          case rel => exact ⟨i + 1, by omega, by go_num, M1⟩
          case measure => simp [intOf]; omega
    · obtain rfl : i = dn := by omega
      obtain ⟨T, vS', vG', L, rep, kw⟩ := HM.out
      rw [List.take_of_length_le (by rw [HDN.out]; exact Nat.le_refl _)] at L
      have fix := HFW.out.kept ok kw
      have hTa : T.idx a = some S.cnt := L.ida
      have hla := rep.low.look Try.underlying35 (zero3 wr) hsa
      have hia := rep.idx.look Try.underlying35 (zero3 wr) hsa
      rw [hTa] at hla hia
      simp only [Option.map_some, Option.getD_some, iV] at hla hia
      have cI := fix.cI
      have cL := fix.cL
      by_cases hlow : T.low a = S.cnt
      · rw [hlow] at hla
        obtain ⟨new, hst, -⟩ := L.stk
        have nd := L.inv.nodup
        rw [hst, List.nodup_append] at nd
        obtain ⟨nd1, nd2, nd3⟩ := nd
        have hsl : T.stack.length ≤ 65536 := by
          have := stack_len L.inv
          have := rep.cnt
          have := hg.len
          omega
        obtain ⟨gS, cS, hvS⟩ := own_some rep.rows.stk (by rw [hst]; simp; omega)
        subst hvS
        obtain ⟨aS', cS', eS, hcap, hcm, atS, -⟩ := own_at rep.rows.stk
        simp only [Value.slice.injEq, true_and] at eS
        obtain ⟨rfl, rfl⟩ := eS
        have hq : (a :: new).length = T.stack.length - S.stack.length := by rw [hst]; simp
        have hpl : S.stack.length < T.stack.length := by rw [hst]; simp
        obtain ⟨cS0, fS0⟩ := rep.cellS
        have IX := index_any (some ⟨gS, 0, Option.none⟩) T.stack.length cS S.stack new a wr (by rw [← hst]; exact atS) (by rw [← hst]) hsl (fun h => nd3 a h a (by simp) rfl)
        have ATD : Hid (At wr (some ⟨gS, S.stack.length, Option.none⟩) (strs (a :: new))) := at_drop (by rw [← hst]; exact atS)
        have HST : Hid (T.stack = S.stack ++ a :: new) := hst
        have HND : Hid (S.stack.Nodup ∧ (a :: new).Nodup ∧ ∀ x ∈ S.stack, ∀ y ∈ a :: new, x ≠ y) := ⟨nd1, nd2, nd3⟩
        have HL : Hid (Tarjan.Loop succ G S a (succ a) T) := L
        have HFX : Hid (Fixed C succ wr) := fix
        have HKW : Hid (Kept (Var C) w wr) := kw
        have HLOW : Hid (T.low a = S.cnt) := hlow
        obtain ⟨sl, hsl0⟩ : ∃ sl, T.stack.length = sl := ⟨_, rfl⟩
        obtain ⟨pl, hpl0⟩ : ∃ pl, S.stack.length = pl := ⟨_, rfl⟩
        have HSL : Hid (T.stack.length = sl) := hsl0
        have HPL : Hid (S.stack.length = pl) := hpl0
        rw [hsl0] at hsl hcap hq hpl cS0 IX rep
        rw [hpl0] at hq hpl IX ATD hstl
        have HREP : Hid (Rep C U wr T (onS T) (.slice (some ⟨gS, 0, Option.none⟩) sl cS) vG') := rep
        clear L rep kw fix hTa HM hlow hst nd1 nd2 nd3 atS hsl0 hpl0
        go_wp2_with fail
        refine IX.mono ?_
        rintro e w' ⟨rfl, hw⟩
        obtain rfl := hw.symm
        clear IX hw hla hia cI cL
        have CL := clone_any gS pl (sl - pl) (cS - pl) (a :: new) wr ATD.out hq (by omega) (by omega)
        have HCS0 : Hid (wr.cell? ⟨C.bS, 0, Option.none⟩ = some (.slice (some ⟨gS, 0, Option.none⟩) sl cS)) := cS0
        go_wp2_with fail
        refine CL.mono ?_
        rintro e w7 ⟨g', cap', rfl, oG, k7, hg'⟩
        clear CL cS0 fS0
        obtain ⟨ql, hql⟩ : ∃ ql, sl - pl = ql := ⟨_, rfl⟩
        rw [hql] at hq oG ⊢
        have hB2 : C.B0 ≤ wr.heap.size := Nat.le_trans hB HKW.out.size
        have cS7 := k7.cell HCS0.out id
        have fS7 : w7.frozen? ⟨C.bS, 0, Option.none⟩ = false := free_of (k7.at HREP.out.rows.oS id) 0
        have repv := Rep.cutStack HREP.out ok hB2 HST.out HSL.out
        have KV := kept_set_both k7 HREP.out.rows.oS (.slice (some ⟨gS, 0, Option.none⟩) S.stack.length cS)
        rw [HPL.out] at repv KV
        have HRV : Hid (Rep C U (wr.setCell ⟨C.bS, 0, Option.none⟩ (.slice (some ⟨gS, 0, Option.none⟩) pl cS)) { T with stack := S.stack } (onS T) (.slice (some ⟨gS, 0, Option.none⟩) pl cS) vG') := repv
        have HKV : Hid (Kept nothing (wr.setCell ⟨C.bS, 0, Option.none⟩ (.slice (some ⟨gS, 0, Option.none⟩) pl cS)) (w7.setCell ⟨C.bS, 0, Option.none⟩ (.slice (some ⟨gS, 0, Option.none⟩) pl cS))) := KV
        have HOG : Hid (OwnS (w7.setCell ⟨C.bS, 0, Option.none⟩ (.slice (some ⟨gS, 0, Option.none⟩) pl cS)) (.slice (some ⟨g', 0, Option.none⟩) ql cap') (a :: new)) :=
          ownsRow_keep oG (Kept.setCell (S := fun k => k = C.bS) (p := ⟨C.bS, 0, Option.none⟩) (Kept.refl _ _) (.inl rfl) _) (fun k hk' e => by
            simp [Value.ownBlock] at hk'
            have := ok.ltS
            omega)
        have HK8 : Hid (Kept (Var C) wr (w7.setCell ⟨C.bS, 0, Option.none⟩ (.slice (some ⟨gS, 0, Option.none⟩) pl cS))) := (k7.mono (T := Var C) fun k _ h => h.elim).setCell (p := ⟨C.bS, 0, Option.none⟩) (.inl (.inr (.inr (.inr (.inl rfl))))) _
        have HG' : Hid (wr.heap.size ≤ g') := hg'
        have HQ : Hid ((a :: new).length = ql) := hq
        have qb : ql ≤ 65536 := by omega
        have pb : pl ≤ cS := by omega
        unfold maxLen at hcm
        clear repv KV oG k7 hg' hq hql HCS0
        go_wp2
        clear cS7 fS7
        generalize hwv : wr.setCell ⟨C.bS, 0, Option.none⟩ (.slice (some ⟨gS, 0, Option.none⟩) pl cS) = wv at HRV HKV
        have HWV : Hid (wv.heap.size = wr.heap.size) := by show _ = _; rw [← hwv, World.size_setCell]
        clear hwv
        generalize w7.setCell ⟨C.bS, 0, Option.none⟩ (.slice (some ⟨gS, 0, Option.none⟩) pl cS) = w8 at HKV HOG HK8 ⊢
        generalize wr = w0 at *
        go_loopw [91] (fun xv wr => ∃ j : Nat, j ≤ ql ∧ xv = .int .i64 j ∧ Hid (∃ onf, Rep C U wr { T with stack := S.stack } onf (.slice (some ⟨gS, 0, Option.none⟩) pl cS) vG' ∧ (∀ x, x ∈ (a :: new).take j → onf x = false) ∧ ∀ x, x ∉ (a :: new).take j → onf x = onS T x) ∧ Hid (Kept (fun k => k = C.mO) w8 wr)) (fun xv _ => ql - (intOf xv).toNat)
        case atStart => exact ⟨0, Nat.zero_le _, by go_num, ⟨_, Rep.kept0 HRV.out HKV.out, by simp, fun _ _ => rfl⟩, Kept.refl _ _⟩
        case round =>
          obtain ⟨j, hj, rfl, HR, HKO⟩ := hrel
          have ow := ownsRow_keep HOG.out HKO.out (fun k hk' e => by
            simp [Value.ownBlock] at hk'
            have := ok.ltO
            have := HG'.out
            omega)
          have HOW : Hid (OwnS wr (.slice (some ⟨g', 0, Option.none⟩) ql cap') (a :: new)) := ow
          have kwr : Kept (Var C) w0 wr := HK8.out.trans (Kept.var HKO.out (.inr (.inr (.inl rfl))))
          have fix := HFX.out.kept ok kwr
          by_cases hlt2 : j < ql
          · obtain ⟨x, hx⟩ : ∃ x, (a :: new)[j]? = some x := ⟨_, List.getElem?_eq_getElem (by rw [HQ.out]; exact hlt2)⟩
            rw [HQ.out] at ow
            obtain ⟨c1, -⟩ := own_cell ow (i := j) (x := .string x) (by rw [strs, List.getElem?_map, hx]; rfl)
            obtain ⟨onf, rep, o1, o2⟩ := HR.out
            have hxs : x ∈ T.stack := by rw [HST.out]; exact List.mem_append.2 (.inr (List.mem_of_getElem? hx))
            obtain ⟨nx, hnx⟩ := HL.out.inv.vis x hxs
            have hsx : x.size ≤ maxLen := key_size rep.idx (s := x) (by show (T.idx x).map iV ≠ _; rw [hnx]; simp)
            obtain ⟨w9, run9, rep9, k9⟩ := Rep.setOn' rep ok (a := x) (by show T.idx x ≠ _; rw [hnx]; simp) hsx (by have := hg.len; omega) false
            have HR9 : Hid (∃ onf, Rep C U w9 { T with stack := S.stack } onf (.slice (some ⟨gS, 0, Option.none⟩) pl cS) vG' ∧ (∀ x, x ∈ (a :: new).take (j + 1) → onf x = false) ∧ ∀ x, x ∉ (a :: new).take (j + 1) → onf x = onS T x) := by
              refine ⟨_, rep9, fun y hy => ?_, fun y hy => ?_⟩
              · by_cases e : y = x
                · rw [e, upd_same]
                · rw [upd_other _ _ e]
                  rw [List.take_add_one, hx, List.mem_append] at hy
                  rcases hy with hy | hy
                  · exact o1 y hy
                  · simp at hy; exact absurd hy e
              · rw [List.take_add_one, hx, List.mem_append] at hy
                rw [upd_other _ _ (fun e => hy (.inr (by simp [e])))]
                exact o2 y (fun h => hy (.inl h))
            have HK9 : Hid (Kept (fun k => k = C.mO) w8 w9) := HKO.out.trans k9
            have cO := fix.cO
            clear ow kwr fix hx rep o1 o2 hxs hnx rep9 k9 HR HKO
            go_wp2
            go_roundw
            case rel => exact ⟨j + 1, by omega, by go_num, HR9, HK9⟩
            case measure => simp [intOf]; omega
          · obtain rfl : j = ql := by omega
            obtain ⟨onf, rep, o1, o2⟩ := HR.out
            rw [List.take_of_length_le (by rw [HQ.out]; exact Nat.le_refl _)] at o1 o2
            have rep2 : Rep C U wr { T with stack := S.stack } (onS { T with stack := S.stack }) (.slice (some ⟨gS, 0, Option.none⟩) pl cS) vG' := Rep.onCongr rep fun x => by
              show _ = tb (x ∈ S.stack)
              by_cases hx : x ∈ a :: new
              · rw [o1 x hx, tb_false (fun h => HND.out.2.2 x h x hx rfl)]
              · rw [o2 x hx]
                show tb (x ∈ T.stack) = _
                by_cases hxs : x ∈ S.stack
                · rw [tb_true hxs, tb_true (by rw [HST.out]; exact List.mem_append.2 (.inl hxs))]
                · rw [tb_false hxs, tb_false (by rw [HST.out]; exact fun h => (List.mem_append.1 h).elim hxs hx)]
            have post := HL.out.pops HLOW.out HST.out
            have hcomp : ∀ c' ∈ T.comps, ∀ v ∈ c', v ∉ a :: new := fun c' hc' v hv hva => ((HL.out.inv.cover v).2 ⟨c', hc', hv⟩).2 (by rw [HST.out]; exact List.mem_append.2 (.inr hva))
            have hcl : T.comps.length ≤ 65536 := by
              have := comps_len HL.out.inv
              have := HREP.out.cnt
              have := hg.len
              omega
            by_cases hlen : 1 < j
            · have SO := sort_any g' j cap' (a :: new) wr HOW.out HQ.out HND.out.2.1 (by omega)
              have HR2 : Hid (Rep C U wr { T with stack := S.stack } (onS { T with stack := S.stack }) (.slice (some ⟨gS, 0, Option.none⟩) pl cS) vG') := rep2
              have HPO : Hid (Post succ G S a (T.cut S.stack (a :: new))) := post
              have HCO : Hid (∀ c' ∈ T.comps, ∀ v ∈ c', v ∉ a :: new) := hcomp
              have HCL : Hid (T.comps.length ≤ 65536) := hcl
              have HKR : Hid (Kept (Var C) w0 wr) := kwr
              have hlen' : (1 : Int) < (j : Int) := by omega
              clear ow kwr fix rep rep2 o1 o2 post hcomp hcl HR
              go_wp2_with fail
              refine SO.mono ?_
              rintro e w9 ⟨rfl, l', hperm, hsorted, o9, k9⟩
              clear SO
              have hgv : C.B0 ≤ g' := Nat.le_trans hB2 HG'.out
              have rep9 := Rep.aside HRV.out HR2.out ok (by
                have k1 := HKV.out
                have k2 := HKO.out
                exact ⟨k2.os.trans k1.os, k2.tape.trans k1.tape, k2.output.trans k1.output, Nat.le_trans k1.size k2.size, fun k hk' hne => by rw [k2.block k (Nat.lt_of_lt_of_le hk' k1.size) hne, k1.block k hk' id]⟩) k9 (by rw [HWV.out]; exact HG'.out) hgv
              have hgS : gS < w0.heap.size := ownsRow_lt HREP.out.rows.stk rfl
              obtain ⟨a3, n3, c3, w10, hrun, hc10, hf10, rep10, k10⟩ := Rep.addGroup rep9 ok (Nat.le_trans hB2 (Nat.le_trans HKR.out.size k9.size)) o9 (fun k hk' => by
                have e1 : g' = k := by simpa [Value.ownBlock] using hk'
                refine ⟨by rw [← e1]; exact hgv, fun h => ?_⟩
                have e2 : gS = k := by simpa [Value.ownBlock] using h
                have := HG'.out
                omega) (by rw [HQ.out]; exact hlen) hperm hsorted HCO.out HCL.out
              have cG9 := rep9.cellG.1
              have D : Hid (Done C U succ G S a w (w10.setCell ⟨C.bG, 0, Option.none⟩ (.slice a3 n3 c3))) := ⟨_, _, _, rep10, HPO.out, ((HKW.out.trans HKR.out).trans (Kept.var k9 (.inr (.inr (.inr (.inr (.inr hgv))))))).trans k10⟩
              have HRUN : Hid ((Builtin.append_ #[26, 26] 26 #[vG', .slice (some ⟨w9.heap.size, 0, Option.none⟩) 1 1]).run Try.prog (w9.alloc (.cells #[.slice (some ⟨g', 0, Option.none⟩) j cap'] 34)) = .ok (.slice a3 n3 c3) w10) := hrun
              clear hperm hsorted o9 k9 rep9 rep10 k10 hrun HRV HKV HOG HK8 HREP HL HST HND HLOW HFX HOW HKW HR2 HPO HCO HCL HKR HKO
              go_wp2_with (at_builtin; refine wpList_append_run _ rfl (.tmp 103) (.tmp 105) 26 26 rfl _ _ _ w10 rfl rfl HRUN.out ?_)
              go_end0
              exact ⟨rfl, D.out⟩
            · have D : Hid (Done C U succ G S a w wr) := ⟨_, _, _, Rep.addSmall rep2 (by rw [HQ.out]; exact hlen), post, HKW.out.trans kwr⟩
              clear ow kwr fix rep rep2 o1 o2 post hcomp hcl HR HKO HRV HKV HOG HK8 HREP HL HST HND HLOW HFX HOW HKW
              go_wp2
              go_end0
              exact ⟨rfl, D.out⟩
      · have hne : ¬ ((T.low a : Int) = (S.cnt : Int)) := by omega
        have D : Hid (Done C U succ G S a w wr) := ⟨T, vS', vG', rep, L.stays hlow, kw⟩
        clear L rep kw fix hTa HM hlow
        go_wp2
        refine bodyPost_ret (v := .tuple #[]) (by simp [results, Try.results12, go_sem]) rfl ⟨rfl, D.out⟩

theorem visit_all (C : Con) (ok : C.Ok) (U : List ByteArray) (succ : ByteArray → List ByteArray) (hg : GraphOk U succ) : ∀ k, VisitAt C U succ k
  | 0 => fun S G w a vS vG hk ha hi _ _ _ _ _ => by have := unv_pos ha hi; omega
  | k + 1 => visit_step C ok U succ hg k (visit_all C ok U succ hg k)

end Go.Proofs.Qxb6626223a.Visit
