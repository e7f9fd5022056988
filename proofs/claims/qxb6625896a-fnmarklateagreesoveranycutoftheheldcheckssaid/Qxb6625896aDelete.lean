/-
  THE WALKS of slices.IndexFunc and slices.DeleteFunc at markLate's closure, of markLate.
-/
import Derived.Test.Qxb6625896aHeap
namespace Go.Proofs.Qxb6625896a.Delete
open Go.RowKit
open Go.Proofs.Qxb6625896a.Plain Go.Proofs.Qxb6625896a.Frame Go.Proofs.Qxb6625896a.Parts Go.Proofs.Qxb6625896a.Heap
set_option linter.unusedVariables false
set_option linter.unusedSimpArgs false

/-- What IndexFunc comes to. -/
def Found (w : World) (sb : Nat) (inc : Int) (L : Nat) (bs : List Nat) (cs : List Chk) (e : Ending) (w' : World) : Prop :=
  (e = .returned (.int .i64 (-1)) ∧ (∀ c ∈ cs, ckRet inc L c = false) ∧ ∃ n, w' = w.drewN n) ∨
  ∃ cs1 c cs2 bs1 b bs2, cs = cs1 ++ c :: cs2 ∧ bs = bs1 ++ b :: bs2 ∧ bs1.length = cs1.length ∧ (∀ x ∈ cs1, ckRet inc L x = false) ∧ ckRet inc L c = true ∧ e = .returned (.int .i64 cs1.length) ∧
    ∃ n, w' = ((w.setCell ⟨b, 2, Option.none⟩ (.bool true)).setCell ⟨sb, 1, Option.none⟩ (.int .i64 (L + 1))).drewN n

set_option maxHeartbeats 1000000 in
theorem index_any (sb pb bi bp len cap L : Nat) (inc wait : Int) (bs : List Nat) (cs : List Chk) (A : Array Value) (w : World)
    (st : St w sb pb bi bp len cap inc wait L bs cs) (hA : w.heap[pb]? = some (.cells A 35 (0, 0))) (hrow : RowA A 0 bs) (hlen : bs.length = len) (hmax : len ≤ 65536) (hL : L ≤ 15) :
    Calls Try.prog 23 #[.slice (some ⟨pb, 0, Option.none⟩) len cap, .func (.func 22) #[] #[.pointer (some ⟨bi, 0, Option.none⟩), .pointer (some ⟨bp, 0, Option.none⟩)]] w fun e w' => Found w sb inc L bs cs e w' := by
  have HST : Hid (St w sb pb bi bp len cap inc wait L bs cs) := st
  have HA : Hid (w.heap[pb]? = some (.cells A 35 (0, 0))) := hA
  have HR : Hid (RowA A 0 bs) := hrow
  have HLEN : Hid (bs.length = len) := hlen
  clear st hA hrow hlen
  go_enter Try.func23, Try.ntmps23
  go_wp2
  go_loopw [8] (fun i wr => ∃ k n : Nat, k ≤ len ∧ i = .int .i64 k ∧ wr = w.drewN n ∧ Hid (∀ c ∈ cs.take k, ckRet inc L c = false)) (fun i _ => len - (intOf i).toNat)
  case atStart => exact ⟨0, 0, Nat.zero_le _, rfl, rfl, (by intro c hc; simp at hc : ∀ c ∈ cs.take 0, ckRet inc L c = false)⟩
  case round =>
    obtain ⟨k, n, hk, rfl, rfl, HN⟩ := hrel
    by_cases hlt : k < len
    · have hl2 := HST.out.objs.length
      have hkb : k < bs.length := by rw [HLEN.out]; exact hlt
      obtain ⟨b, hb⟩ : ∃ b, bs[k]? = some b := ⟨_, List.getElem?_eq_getElem hkb⟩
      obtain ⟨c, hc⟩ : ∃ c, cs[k]? = some c := ⟨_, List.getElem?_eq_getElem (by omega)⟩
      have hobj := HST.out.objs.at hb hc
      have hcell : (w.drewN n).cell? ⟨pb, k, Option.none⟩ = some (.pointer (some ⟨b, 0, Option.none⟩)) := by
        rw [cell_of (w := w.drewN n) HA.out]
        simpa [ptr] using HR.out k b hb
      have HB : Hid (bs[k]? = some b) := hb
      have HC : Hid (cs[k]? = some c) := hc
      have HO : Hid (w.heap[b]? = some (chkObj c)) := hobj
      clear hobj hb hc hl2 hkb
      cases hr : ckRet inc L c
      · have HRT : Hid (ckRet inc L c = false) := hr
        clear hr
        go_wp2_with (go_at_call 22; refine (del_keep b sb bi bp pb len cap L c inc wait _ ?_ ?_ ?_ ?_ HRT.out).mono ?_; exact HO.out; exact HST.out.slot; exact HST.out.hi; exact HST.out.hp; rintro e w' ⟨rfl, nn, rfl⟩)
        go_roundw
        case rel =>
          refine ⟨k + 1, n + nn, by omega, by go_num, ?_, ?_⟩
          · simp [World.drewN, Nat.add_assoc]
          · intro x hx
            rw [List.take_add_one, List.mem_append, HC.out] at hx
            rcases hx with hx | hx
            · exact HN.out x hx
            · simp at hx; subst hx; exact HRT.out
        case measure => simp [intOf]; omega
      · have HRT : Hid (ckRet inc L c = true) := hr
        clear hr
        have nsb : b ≠ sb := ne_of HO.out HST.out.slot (by decide)
        have nbp : b ≠ bp := ne_of HO.out HST.out.hp (by decide)
        go_wp2_with (go_at_call 22; refine (del_ret b sb bi bp pb len cap L c inc wait _ ?_ ?_ ?_ ?_ nsb nbp hL HRT.out).mono ?_; exact HO.out; exact HST.out.slot; exact HST.out.hi; exact HST.out.hp; rintro e w' ⟨rfl, nn, rfl⟩)
        go_ret
        refine Or.inr ⟨cs.take k, c, cs.drop (k + 1), bs.take k, b, bs.drop (k + 1), ?_, ?_, ?_, HN.out, HRT.out, ?_, n + nn, ?_⟩
        · have := (List.getElem?_eq_some_iff.1 HC.out)
          obtain ⟨h1, h2⟩ := this
          rw [← h2, ← List.drop_eq_getElem_cons h1, List.take_append_drop]
        · have := (List.getElem?_eq_some_iff.1 HB.out)
          obtain ⟨h1, h2⟩ := this
          rw [← h2, ← List.drop_eq_getElem_cons h1, List.take_append_drop]
        · rw [List.length_take, List.length_take, HST.out.objs.length]
        · have h1 := (List.getElem?_eq_some_iff.1 HC.out).1
          refine ret_int ?_
          rw [List.length_take]
          omega
        · simp [World.drewN, World.setCell, Nat.add_assoc]
    · go_wp2
      go_ret
      refine Or.inl ⟨rfl, fun c hc => HN.out c ?_, n, rfl⟩
      have hl2 := HST.out.objs.length
      have := HLEN.out
      rw [List.take_of_length_le (by omega)]
      exact hc


/-- What a run over the whole list leaves. -/
structure Done (w : World) (sb pb bi bp len cap : Nat) (inc wait : Int) (L : Nat) (bs : List Nat) (cs : List Chk) (w' : World) : Prop where
  st : St w' sb pb bi bp len cap inc wait (L + ckN inc L cs) bs (ckMark inc L cs)
  arr : ∃ A, w'.heap[pb]? = some (.cells A 35 (0, 0)) ∧ A.size = cap ∧ RowA A 0 (ckKeep inc L cs bs)
  kept : Kept (own sb pb bs) w w'

theorem done_none {w : World} {sb pb bi bp len cap : Nat} {inc wait : Int} {L : Nat} {bs : List Nat} {cs : List Chk} {A : Array Value} (st : St w sb pb bi bp len cap inc wait L bs cs) (hA : w.heap[pb]? = some (.cells A 35 (0, 0))) (hsz : A.size = cap) (hrow : RowA A 0 bs)
    (hn : ∀ c ∈ cs, ckRet inc L c = false) (n : Nat) : Done w sb pb bi bp len cap inc wait L bs cs (w.drewN n) := by
  refine ⟨?_, ⟨A, hA, hsz, ?_⟩, (Kept.refl _ _).drewN n⟩
  · rw [none_N _ _ _ hn, none_mark _ _ _ hn]; exact st.drewN n
  · rw [none_keep _ _ _ _ st.objs.length hn]; exact hrow

theorem mid_first {w : World} {sb pb bi bp len cap : Nat} {inc wait : Int} {L : Nat} {bs1 bs2 : List Nat} {b : Nat} {cs1 cs2 : List Chk} {c : Chk} {A : Array Value} (st : St w sb pb bi bp len cap inc wait L (bs1 ++ b :: bs2) (cs1 ++ c :: cs2)) (hA : w.heap[pb]? = some (.cells A 35 (0, 0)))
    (hsz : A.size = cap) (hrow : RowA A 0 (bs1 ++ b :: bs2)) (hl : bs1.length = cs1.length) (hn : ∀ x ∈ cs1, ckRet inc L x = false) (hr : ckRet inc L c = true) (n : Nat) :
    Mid w sb pb bi bp len cap inc wait L (bs1 ++ b :: bs2) (cs1 ++ c :: cs2) cs1.length (cs1.length + 1) (cs1 ++ [c]) cs2 (bs1 ++ [b]) bs2 A (((w.setCell ⟨b, 2, Option.none⟩ (.bool true)).setCell ⟨sb, 1, Option.none⟩ (.int .i64 (L + 1))).drewN n) := by
  have hb := (st.objs.split hl).2.1
  have npb : pb ≠ b := (ne_of hb hA (by decide)).symm
  have nps : pb ≠ sb := (ne_of st.slot hA (by decide)).symm
  have st' := st.retire hl
  have e0 := none_N _ _ _ hn
  have hr' : ckRet inc (L + ckN inc L cs1) c = true := by rw [e0]; exact hr
  have ek : ckKeep inc L (cs1 ++ [c]) (bs1 ++ [b]) = bs1 := by rw [one_keep _ _ _ _ _ _ hl, if_pos hr', none_keep _ _ _ _ hl hn]; simp
  refine ⟨by simp, by simp, by simp [hl], by simp, by rw [ek, hl], by omega, ?_, (retire_else npb nps).trans hA, hsz, by rw [ek]; exact hrow.take, ?_, ?_⟩
  · rw [one_N, if_pos hr', one_mark, if_pos hr', e0, none_mark _ _ _ hn]
    have := st'.drewN n
    simpa using this
  · have := hrow.drop.cons.2
    rw [Nat.zero_add, hl] at this
    exact this
  · exact (((Kept.refl _ _).setCell (Or.inl (Or.inr (Or.inr (by simp)))) _).setCell (Or.inl (Or.inl rfl)) _).drewN n

theorem zero35 : ∀ w : World, (zeroValue 35).run Try.prog w = .ok (.pointer none) w := fun _ => by kernel_rfl

/-- Behind the second loop: the rest of the array is cleared. -/
theorem mid_end {w wr : World} {sb pb bi bp len cap : Nat} {inc wait : Int} {L : Nat} {bs : List Nat} {cs : List Chk} {i j : Nat} {cs1 : List Chk} {bs1 : List Nat} {A : Array Value}
    (h : Mid w sb pb bi bp len cap inc wait L bs cs i j cs1 [] bs1 [] A wr) (n : Nat) (z : Value) : Done w sb pb bi bp len cap inc wait L bs cs (wr.setCells pb i (List.replicate n z)) := by
  have hcs : cs = cs1 := by rw [h.hcs]; simp
  have hbs : bs = bs1 := by rw [h.hbs]; simp
  subst hcs hbs
  obtain ⟨A', h1, h2, h3⟩ := block_setCells (List.replicate n z) i wr A h.hA
  refine ⟨?_, ⟨A', h1, h2.trans h.size, ?_⟩, Kept.setCells (Or.inr (Or.inl rfl)) _ _ _ h.kept⟩
  · have := St.setCells (List.replicate n z) i wr A h.st h.hA
    simpa using this
  · intro k b hb
    have hk := (List.getElem?_eq_some_iff.1 hb).1
    have := h.row1 k b hb
    rw [Nat.zero_add] at this ⊢
    rw [h3 k (by rw [h.hi]; exact hk)]
    exact this

set_option maxHeartbeats 2000000 in
theorem delete_any (sb pb bi bp len cap L : Nat) (inc wait : Int) (bs : List Nat) (cs : List Chk) (A : Array Value) (w : World)
    (st : St w sb pb bi bp len cap inc wait L bs cs) (hA : w.heap[pb]? = some (.cells A 35 (0, 0))) (hsz : A.size = cap) (hrow : RowA A 0 bs) (hlen : bs.length = len) (hmax : cap ≤ 65536) (hlc : len ≤ cap) (hL : L ≤ 15) :
    Calls Try.prog 21 #[.slice (some ⟨pb, 0, Option.none⟩) len cap, .func (.func 22) #[] #[.pointer (some ⟨bi, 0, Option.none⟩), .pointer (some ⟨bp, 0, Option.none⟩)]] w fun e w' =>
      e = .returned (.slice (some ⟨pb, 0, Option.none⟩) (ckKeep inc L cs bs).length cap) ∧ Done w sb pb bi bp len cap inc wait L bs cs w' := by
  have HST : Hid (St w sb pb bi bp len cap inc wait L bs cs) := st
  have HA : Hid (w.heap[pb]? = some (.cells A 35 (0, 0))) := hA
  have HSZ : Hid (A.size = cap) := hsz
  have HR : Hid (RowA A 0 bs) := hrow
  have HLEN : Hid (bs.length = len) := hlen
  clear st hA hsz hrow hlen
  go_enter Try.func21, Try.ntmps21
  go_wp2_with fail
  refine (index_any sb pb bi bp len cap L inc wait bs cs A _ HST.out HA.out HR.out HLEN.out (by omega) hL).mono ?_
  rintro e w1 (⟨rfl, hn, n, rfl⟩ | ⟨cs1, c, cs2, bs1, b, bs2, hcs, hbs, hl, hn, hr, rfl, n, rfl⟩)
  · have HD := done_none HST.out HA.out HSZ.out HR.out hn n
    have HK := none_keep inc L cs bs HST.out.objs.length hn
    have HN2 : Hid (ckKeep inc L cs bs = bs) := HK
    clear HK hn
    go_wp2
    go_ret
    exact ⟨by rw [HN2.out, HLEN.out]; rfl, HD⟩
  · have HM : Hid (Mid w sb pb bi bp len cap inc wait L bs cs cs1.length (cs1.length + 1) (cs1 ++ [c]) cs2 (bs1 ++ [b]) bs2 A (((w.setCell ⟨b, 2, Option.none⟩ (.bool true)).setCell ⟨sb, 1, Option.none⟩ (.int .i64 (L + 1))).drewN n)) := by
      have h1 := HST.out
      have h2 := HR.out
      rw [hcs, hbs] at h1
      rw [hbs] at h2
      rw [hcs, hbs]
      exact mid_first h1 HA.out HSZ.out h2 hl hn hr n
    generalize hW : ((w.setCell ⟨b, 2, Option.none⟩ (.bool true)).setCell ⟨sb, 1, Option.none⟩ (.int .i64 (L + 1))).drewN n = w1 at HM ⊢
    clear hW
    have hlen' : cs1.length + 1 ≤ len := by
      have := HLEN.out
      rw [hbs] at this
      simp at this
      omega
    have HM' := HM
    clear HM hl hn hr hcs hbs
    have hne : (((cs1.length : Nat) : Int) == -1) = false := beq_eq_false_iff_ne.2 (by omega)
    go_wp2
    go_loopw [5, 6] (fun i j wr => ∃ (ii jj : Nat) (ds1 ds2 : List Chk) (es1 es2 : List Nat) (A' : Array Value), jj ≤ len ∧ ii < jj ∧ i = .int .i64 ii ∧ j = .int .i64 jj ∧ Hid (Mid w sb pb bi bp len cap inc wait L bs cs ii jj ds1 ds2 es1 es2 A' wr)) (fun _ j _ => len - (intOf j).toNat)
    case atStart => exact ⟨_, _, _, _, _, _, _, hlen', Nat.lt_succ_self _, rfl, by go_num, HM'⟩
    case round =>
      clear HM' hlen' hne
      obtain ⟨ii, jj, ds1, ds2, es1, es2, A', hjl, hij, rfl, rfl, HM⟩ := hrel
      have hlcs := HST.out.objs.length
      have hl1 := HLEN.out
      by_cases hlt : jj < len
      · match ds2, es2, HM with
        | [], es2, HM => exfalso; have h1 := HM.out.hcs; have h2 := HM.out.hj; rw [List.append_nil] at h1; rw [← h1] at h2; omega
        | d :: ds2, [], HM => exfalso; have h1 := HM.out.hbs; have h2 := HM.out.hj; have h3 := HM.out.hl; rw [List.append_nil] at h1; rw [← h1] at h3; omega
        | d :: ds2, e :: es2, HM =>
          have hN := ckN_eq inc ds1 L hL
          have hLN : L + ckN inc L ds1 ≤ 15 := by omega
          clear hN hlcs hl1
          have hcell : wr.cell? ⟨pb, jj, Option.none⟩ = some (.pointer (some ⟨e, 0, Option.none⟩)) := by
            rw [cell_of HM.out.hA]; exact HM.out.row2.cons.1
          have hold : ∃ v, wr.cell? ⟨pb, ii, Option.none⟩ = some v := by
            rw [cell_of HM.out.hA]
            exact ⟨_, Array.getElem?_eq_getElem (by rw [HM.out.size]; omega)⟩
          obtain ⟨old, hold⟩ := hold
          have hfr := free_of HM.out.hA ii
          have HO : Hid (wr.heap[e]? = some (chkObj d)) := by
            have h1 := HM.out.st.objs
            rw [HM.out.hbs] at h1
            exact (h1.split (by rw [HM.out.hl, ckMark_length])).2.1
          cases hr : ckRet inc (L + ckN inc L ds1) d
          · have HRT : Hid (ckRet inc (L + ckN inc L ds1) d = false) := hr
            clear hr
            go_wp2_with (go_at_call 22; refine (del_keep e sb bi bp pb len cap (L + ckN inc L ds1) d inc wait _ ?_ ?_ ?_ ?_ HRT.out).mono ?_; exact HO.out; exact HM.out.st.slot; exact HM.out.st.hi; exact HM.out.st.hp; rintro e w' ⟨rfl, nn, rfl⟩)
            go_roundw
            case rel => exact ⟨ii + 1, jj + 1, _, _, _, _, _, by omega, by omega, by go_num, by go_num, (HM.out.drewN nn).keep HRT.out (by omega)⟩
            case measure => simp [intOf]; omega
          · have HRT : Hid (ckRet inc (L + ckN inc L ds1) d = true) := hr
            clear hr
            have nsb : e ≠ sb := ne_of HO.out HM.out.st.slot (by decide)
            have nbp : e ≠ bp := ne_of HO.out HM.out.st.hp (by decide)
            go_wp2_with (go_at_call 22; refine (del_ret e sb bi bp pb len cap (L + ckN inc L ds1) d inc wait _ ?_ ?_ ?_ ?_ nsb nbp hLN HRT.out).mono ?_; exact HO.out; exact HM.out.st.slot; exact HM.out.st.hi; exact HM.out.st.hp; rintro e w' ⟨rfl, nn, rfl⟩)
            go_roundw
            case rel => exact ⟨ii, jj + 1, _, _, _, _, _, by omega, by omega, rfl, by go_num, (HM.out.ret HRT.out).drewN nn⟩
            case measure => simp [intOf]; omega
      · have hclr : (Builtin.clear_ #[26] 0 #[.slice (some ⟨pb, ii, Option.none⟩) (len - ii) (cap - ii)]).run Try.prog wr = .ok (.tuple #[]) (wr.setCells pb ii (List.replicate (len - ii) (.pointer Option.none))) := by
          refine Lib.run_clear_slice wr 26 35 0 (.pointer Option.none) Try.underlying26 zero35 rfl rfl pb ii (len - ii) (cap - ii) (by omega) (fun t ht => ?_) (fun t _ => free_of HM.out.hA _)
          rw [cell_of HM.out.hA, Array.getElem?_eq_getElem (by rw [HM.out.size]; omega)]
          rfl
        obtain ⟨rfl, rfl⟩ : ds2 = [] ∧ es2 = [] := by
          have h1 := congrArg List.length HM.out.hcs
          have h2 := congrArg List.length HM.out.hbs
          have h3 := HM.out.hj
          have h4 := HM.out.hl
          simp at h1 h2
          exact ⟨List.length_eq_zero_iff.1 (by omega), List.length_eq_zero_iff.1 (by omega)⟩
        have HD : Hid (Done w sb pb bi bp len cap inc wait L bs cs (wr.setCells pb ii (List.replicate (len - ii) (.pointer Option.none)))) := mid_end HM.out _ _
        have HI : Hid (ii = (ckKeep inc L cs bs).length) := by
          have h1 := HM.out.hcs
          have h2 := HM.out.hbs
          rw [List.append_nil] at h1 h2
          rw [h1, h2]
          exact HM.out.hi
        clear HM hlcs hl1
        go_wp2
        go_ret
        exact ⟨by rw [← HI.out]; rfl, HD.out⟩

end Go.Proofs.Qxb6625896a.Delete
