/-
  THE WALK of zzFlat.
-/
import Derived.Test.Qxb6626320aRec
namespace Go.Proofs.Qxb6626320a.Flat
open Go.RowKit
open Go.Proofs.Qxb6626320a.Frame Go.Proofs.Qxb6626320a.Parts Go.Proofs.Qxb6626320a.Text Go.Proofs.Qxb6626320a.Recs
set_option linter.unusedVariables false
set_option linter.unusedSimpArgs false

/-- b with each held string spliced in at its place, from prev on. -/
def flatFrom (bl : List UInt8) : Nat → List (Nat × ByteArray) → List UInt8
  | prev, [] => bl.drop prev
  | prev, p :: r => (bl.drop prev).take (p.1 - prev) ++ (p.2.data.toList ++ flatFrom bl p.1 r)
def flat (bl : List UInt8) (hs : List (Nat × ByteArray)) : List UInt8 := flatFrom bl 0 hs

/-- The places rise and lie within n. -/
def OkFrom (n : Nat) : Nat → List (Nat × ByteArray) → Prop
  | prev, [] => prev ≤ n
  | prev, p :: r => prev ≤ p.1 ∧ p.1 ≤ n ∧ OkFrom n p.1 r

def sizes (hs : List (Nat × ByteArray)) : Nat := (hs.map fun p => p.2.size).sum
theorem sizes_append (a b : List (Nat × ByteArray)) : sizes (a ++ b) = sizes a + sizes b := by simp [sizes]
theorem sizes_take (hs : List (Nat × ByteArray)) (i : Nat) : sizes (hs.take i) ≤ sizes hs := by
  have := sizes_append (hs.take i) (hs.drop i)
  rw [List.take_append_drop] at this
  omega

theorem flatFrom_len (bl : List UInt8) : ∀ (hs : List (Nat × ByteArray)) (prev : Nat), OkFrom bl.length prev hs → (flatFrom bl prev hs).length + prev = bl.length + sizes hs
  | [], prev, h => by
    simp only [flatFrom, List.length_drop, sizes, List.map_nil, List.sum_nil]
    have : prev ≤ bl.length := h
    omega
  | p :: r, prev, h => by
    obtain ⟨h1, h2, h3⟩ := h
    have ih := flatFrom_len bl r p.1 h3
    simp only [flatFrom, List.length_append, List.length_take, List.length_drop, sizes, List.map_cons, List.sum_cons] at ih ⊢
    have : p.2.data.toList.length = p.2.size := by simp
    omega

theorem Src.ofAt {w : World} {tx e' : TypeId} (hk : Try.prog.underlying tx = some (.slice e')) (ao : Option Addr) (n c : Nat) (xs : List Value) (h : At w ao xs) (hl : xs.length = n) (hn : ao = Option.none → n = 0) (h1 : ∀ u ∈ xs, u.oneCell' = true) : Src Try.prog 1 tx (.slice ao n c) n xs w := by
  cases ao with
  | none =>
    have h0 := hn rfl
    subst h0
    have hx : xs = [] := List.eq_nil_of_length_eq_zero hl
    subst hx
    exact Src.ofNil w hk c
  | some a =>
    refine Src.ofSlice w hk a n c xs (by omega) (fun j u hj => ?_) h1
    obtain ⟨g, off, he, hc⟩ := h j u hj
    cases he
    rw [Addr.add_lit]
    exact hc

/-- 'append(out, xs...)'. -/
theorem push_at {w : World} {v : Value} {l : List UInt8} (h : OwnB w v l) (ao : Option Addr) (n c : Nat) (m : List UInt8) (ha : At w ao (bc m)) (hl : m.length = n) (hn : ao = Option.none → n = 0) (hb : l.length + n ≤ 140737488355328) :
    ∃ v' w', (Builtin.append_ #[22, 22] 22 #[v, .slice ao n c]).run Try.prog w = .ok v' w' ∧ OwnB w' v' (l ++ m) ∧ Kept (rowOf v) w w' ∧ Onward w v v' := by
  obtain ⟨i, hi, hz, hs, hby⟩ := info_parts info5
  obtain ⟨v', w', hrun, h1, h2, h3⟩ := run_append_owns (P := Try.prog) w 22 22 22 5 i _ 1 1 Try.underlying22 hi hz hs hby rfl (by decide) v l.length (bc l) h (.slice ao n c) n (bc m) (Src.ofAt Try.underlying22 ao n c (bc m) ha (by rw [bc_len]; exact hl) hn (bc_one _)) (by unfold maxLen; omega) (by omega)
  refine ⟨v', w', hrun, ?_, h2, h3⟩
  unfold OwnB
  rw [bc_append, List.length_append, hl]
  exact h1

/-- A cut of a slice reads as the cut. -/
theorem At.cut {w : World} {ao : Option Addr} {xs : List Value} (h : At w ao xs) (lo len cap : Nat) (hc : xs.length ≤ cap) : At w (if cap = lo then ao else ao.map (·.add lo)) ((xs.drop lo).take len) := fun i x hx => by
  have hi := (List.getElem?_eq_some_iff.1 hx).1
  rw [List.length_take, List.length_drop] at hi
  rw [List.getElem?_take_of_lt (by omega), List.getElem?_drop] at hx
  obtain ⟨g, off, rfl, hcell⟩ := h (lo + i) x hx
  rw [if_neg (by omega)]
  exact ⟨g, off + lo, by simp [Addr.add_lit], by rw [Nat.add_assoc]; exact hcell⟩
theorem none_cut {ao : Option Addr} {lo cap : Nat} (h : (if cap = lo then ao else ao.map (·.add lo)) = Option.none) : ao = Option.none := by
  split at h
  · exact h
  · simpa using h

theorem size5 : ∀ w : World, (sizeOf 5).run Try.prog w = .ok 1 w := fun _ => by kernel_rfl
theorem slice_lh (ao : Option Addr) (n cap lo hi : Nat) (h1 : lo ≤ hi) (h2 : hi ≤ cap) (w : World) :
    (Instr.slice 22 (.slice ao n cap) (some (.int .i64 (lo : Int))) (some (.int .i64 (hi : Int))) Option.none).run Try.prog w = .ok (.slice (if cap = lo then ao else ao.map (·.add lo)) (hi - lo) (cap - lo)) w := by
  have he : Try.prog.elem 22 = 5 := by kernel_rfl
  rw [run_slice_lh w 22 ao n cap (by rw [he]; exact Try.underlying22) .i64 .i64 (lo : Int) (hi : Int) (by omega) (by omega) (by omega), he, size5]
  simp [Result.andThen, sliced]
theorem slice_l (ao : Option Addr) (n cap lo : Nat) (h1 : lo ≤ n) (w : World) :
    (Instr.slice 22 (.slice ao n cap) (some (.int .i64 (lo : Int))) Option.none Option.none).run Try.prog w = .ok (.slice (if cap = lo then ao else ao.map (·.add lo)) (n - lo) (cap - lo)) w := by
  have he : Try.prog.elem 22 = 5 := by kernel_rfl
  rw [run_slice_l w 22 ao n cap (by rw [he]; exact Try.underlying22) .i64 (lo : Int) (by omega) (by omega), he, size5]
  simp [Result.andThen, sliced]

theorem bc_cut (bl : List UInt8) (lo len : Nat) : ((bc bl).drop lo).take len = bc ((bl.drop lo).take len) := by simp [bc, List.map_take, List.map_drop]

/-- The row that is being made, and the frame. -/
structure Out (w : World) (v : Value) (l : List UInt8) (wr : World) : Prop where
  own : OwnB wr v l
  below : Below w.heap.size w wr
  new : ∀ k, v.ownBlock = some k → w.heap.size ≤ k
theorem Out.push {w wr w1 : World} {v v' : Value} {l l' : List UInt8} (h : Out w v l wr) (ho : OwnB w1 v' l') (hk : Kept (rowOf v) wr w1) (hn : Onward wr v v') : Out w v' l' w1 := by
  refine ⟨ho, h.below.trans (hk.below h.below.size fun k hr => h.new k hr), fun k hv => ?_⟩
  rcases hn with e | ⟨g, e, hg⟩
  · exact h.new k (by rw [← e]; exact hv)
  · rw [e] at hv
    cases hv
    have := h.below.size
    omega

theorem make_out (w : World) (size : Nat) (hm : size ≤ maxLen) : Out w (.slice (some ⟨w.heap.size, 0, Option.none⟩) 0 size) [] (w.alloc (.cells (madeCells #[.int .u8 0] size) 5)) :=
  ⟨⟨rfl, .inr ⟨w.heap.size, size, _, rfl, Nat.zero_le _, block_new _ _, Nat.zero_le _, hm, by rw [size_madeCells]; omega, by simp [bc]⟩⟩, (Below.refl _ _).alloc (Nat.le_refl _) _, fun k hk => by simp [Value.ownBlock] at hk; omega⟩

set_option maxHeartbeats 4000000 in
set_option maxRecDepth 100000 in
theorem flat_any (ab aa az : Option Addr) (n cb m ca cs : Nat) (bl : List UInt8) (hs : List (Nat × ByteArray)) (w : World) (hb : At w ab (bc bl)) (ha : At w aa (atCells hs)) (hss : At w az (sCells hs)) (hn : bl.length = n) (hm : hs.length = m) (hnc : n ≤ cb) (hcm : cb ≤ maxLen) (hnil : ab = Option.none → n = 0)
    (hok : OkFrom n 0 hs) (hsz : n + sizes hs ≤ 4194304) (hmm : m ≤ 4194304) :
    Calls Try.prog 9 #[.slice ab n cb, .slice aa m ca, .slice az m cs] w fun e w' => ∃ v', e = .returned v' ∧ Out w v' (flat bl hs) w' := by
  unfold maxLen at hcm
  have HB : Hid (At w ab (bc bl)) := hb
  have HA : Hid (At w aa (atCells hs)) := ha
  have HS : Hid (At w az (sCells hs)) := hss
  have HN : Hid (bl.length = n) := hn
  have HM : Hid (hs.length = m) := hm
  have HNIL : Hid (ab = Option.none → n = 0) := hnil
  have HOK : Hid (OkFrom n 0 hs) := hok
  have HSZ : Hid (n + sizes hs ≤ 4194304) := hsz
  have hn4 : n ≤ 4194304 := by omega
  clear hb ha hss hn hm hnil hok hsz
  go_enter Try.func9, Try.ntmps9
  go_wp2
  go_loop [7, 8] (fun sv iv => ∃ i z : Nat, i ≤ m ∧ z ≤ 4194304 ∧ iv = .int .i64 i ∧ sv = .int .i64 z ∧ Hid (z = n + sizes (hs.take i))) (fun _ iv => m - (intOf iv).toNat)
  case atStart => exact ⟨0, n, Nat.zero_le _, by have := HSZ.out; omega, rfl, rfl, (by simp [sizes] : n = n + sizes (hs.take 0))⟩
  case round =>
    obtain ⟨i, z, hi, hz, rfl, rfl, HZ⟩ := hrel
    by_cases hlt : i < m
    · obtain ⟨p, hp⟩ : ∃ p, hs[i]? = some p := ⟨_, List.getElem?_eq_getElem (by rw [HM.out]; exact hlt)⟩
      obtain ⟨g, off, rfl, d1⟩ := HS.out i (.string p.2) (by simp [sCells, hp])
      have HZ2 : Hid (z + p.2.size = n + sizes (hs.take (i + 1))) := by
        show _ = _
        rw [List.take_add_one, hp, sizes_append, HZ.out]
        simp [sizes]
        omega
      have hz2 : z + p.2.size ≤ 4194304 := by
        have h1 := HZ2.out
        have h2 := sizes_take hs (i + 1)
        have h3 := HSZ.out
        omega
      clear hp
      go_wp2
      go_round
      case rel => exact ⟨i + 1, z + p.2.size, by omega, hz2, by go_num, by go_num, HZ2⟩
      case measure => simp [intOf]; omega
    · have hmk := run_make_room (P := Try.prog) 22 5 (.int .u8 0) 1 Try.underlying22 info5 rfl .i64 .i64 z (by omega) (by omega)
      have HOUT : Hid (Out w (.slice (some ⟨w.heap.size, 0, Option.none⟩) 0 z) [] (w.alloc (.cells (madeCells #[.int .u8 0] z) 5))) := make_out w z (by unfold maxLen; omega)
      go_wp2
      clear hmk
      generalize (w.alloc (.cells (madeCells #[.int .u8 0] z) 5)) = w1 at HOUT ⊢
      generalize (Value.slice (some ⟨w.heap.size, 0, Option.none⟩) 0 z) = v0 at HOUT ⊢
      go_loopw [9, 10, 11] (fun ov pv iv wr => ∃ (vo : Value) (i prev : Nat) (done : List UInt8), ov = vo ∧ i ≤ m ∧ prev ≤ n ∧ iv = .int .i64 i ∧ pv = .int .i64 prev ∧ Hid (OkFrom n prev (hs.drop i)) ∧ Hid (done ++ flatFrom bl prev (hs.drop i) = flat bl hs) ∧ Hid (Out w vo done wr)) (fun _ _ iv _ => m - (intOf iv).toNat)
      case atStart => exact ⟨v0, 0, 0, [], rfl, Nat.zero_le _, Nat.zero_le _, rfl, rfl, HOK, rfl, HOUT⟩
      case round =>
        clear HOUT hlt hz HZ hi
        obtain ⟨vo, j, prev, done, rfl, hj, hpn, rfl, rfl, HO2, HE, HOUT⟩ := hrel
        have hdl : done.length ≤ 4194304 := by
          have h1 := congrArg List.length HE.out
          have h2 := flatFrom_len bl hs 0 (by rw [HN.out]; exact HOK.out)
          have h3 := HSZ.out
          have h4 := HN.out
          rw [List.length_append] at h1
          unfold flat at h1
          omega
        by_cases hlt : j < m
        · obtain ⟨p, hp⟩ : ∃ p, hs[j]? = some p := ⟨_, List.getElem?_eq_getElem (by rw [HM.out]; exact hlt)⟩
          have hdrop : hs.drop j = p :: hs.drop (j + 1) := by
            obtain ⟨h1, h2⟩ := List.getElem?_eq_some_iff.1 hp
            rw [List.drop_eq_getElem_cons h1, h2]
          have ho := HO2.out
          have he := HE.out
          rw [hdrop] at ho he
          obtain ⟨o1, o2, o3⟩ := ho
          have hps : p.2.size ≤ 4194304 := by
            have h2 := sizes_take hs (j + 1)
            rw [List.take_add_one, hp, sizes_append] at h2
            simp [sizes] at h2
            have h3 := HSZ.out
            unfold sizes at h3
            omega
          have hsl := slice_lh ab n cb prev p.1 o1 (by omega)
          have hcut := At.cut (HB.out.below HOUT.out.below) prev (p.1 - prev) cb (by rw [bc_len, HN.out]; exact hnc)
          rw [bc_cut] at hcut
          have hln : ((bl.drop prev).take (p.1 - prev)).length = p.1 - prev := by
            rw [List.length_take, List.length_drop, HN.out]
            omega
          obtain ⟨v1, w2, hrun1, b1, k1, n1⟩ := push_at HOUT.out.own _ (p.1 - prev) (cb - prev) _ hcut hln (fun e => by have := HNIL.out (none_cut e); omega) (by omega)
          have O1 := HOUT.out.push b1 k1 n1
          obtain ⟨v2, w3, hrun2, b2, k2, n2⟩ := push_str b1 p.2 (by rw [List.length_append, hln]; omega)
          have O2 := O1.push b2 k2 n2
          generalize (if cb = prev then ab else ab.map (·.add prev)) = aoS at hsl hrun1
          obtain ⟨g, off, rfl, d1⟩ := HA.out j (.int .i64 (p.1 : Int)) (by simp [atCells, hp])
          obtain ⟨g2, off2, rfl, d2⟩ := HS.out j (.string p.2) (by simp [sCells, hp])
          have x1 : wr.cell? ⟨g, off + j, Option.none⟩ = some (.int .i64 (p.1 : Int)) := (HOUT.out.below.cell (lt_of_cell d1)).trans d1
          have x2 : w2.cell? ⟨g2, off2 + j, Option.none⟩ = some (.string p.2) := (O1.below.cell (lt_of_cell d2)).trans d2
          have x3 : w3.cell? ⟨g, off + j, Option.none⟩ = some (.int .i64 (p.1 : Int)) := (O2.below.cell (lt_of_cell d1)).trans d1
          have HR1 : Hid _ := hrun1
          have HR2 : Hid _ := hrun2
          have R1 : Hid (Out w v2 (done ++ (bl.drop prev).take (p.1 - prev) ++ p.2.data.toList) w3) := O2
          have R2 : Hid (OkFrom n p.1 (hs.drop (j + 1))) := o3
          have R3 : Hid (done ++ (bl.drop prev).take (p.1 - prev) ++ p.2.data.toList ++ flatFrom bl p.1 (hs.drop (j + 1)) = flat bl hs) := by
            show _ = _
            rw [← he, flatFrom]
            simp
          clear hp hdrop he o3 hcut hln b1 k1 n1 O1 b2 k2 n2 O2 d1 d2 hrun1 hrun2 HO2 HE HOUT hdl hps
          go_wp2_with (first
            | (at_builtin; refine wpList_append_run _ rfl (.tmp 35) (.tmp 42) 22 22 rfl _ _ v1 w2 rfl rfl HR1.out ?_)
            | (at_builtin; refine wpList_append_run _ rfl (.tmp 44) (.tmp 48) 22 9 rfl _ _ v2 w3 rfl rfl HR2.out ?_))
          go_roundw
          case rel => exact ⟨v2, j + 1, p.1, _, rfl, by omega, by omega, by go_num, rfl, R2, R3, R1⟩
          case measure => simp [intOf]; omega
        · have hjm : j = m := by omega
          subst hjm
          have hsl := slice_l ab n cb prev hpn
          have hcut := At.cut (HB.out.below HOUT.out.below) prev (n - prev) cb (by rw [bc_len, HN.out]; exact hnc)
          rw [bc_cut] at hcut
          have hln : ((bl.drop prev).take (n - prev)).length = n - prev := by
            rw [List.length_take, List.length_drop, HN.out]
            omega
          obtain ⟨v1, w2, hrun1, b1, k1, n1⟩ := push_at HOUT.out.own _ (n - prev) (cb - prev) _ hcut hln (fun e => by have := HNIL.out (none_cut e); omega) (by omega)
          have O1 := HOUT.out.push b1 k1 n1
          generalize (if cb = prev then ab else ab.map (·.add prev)) = aoS at hsl hrun1
          have HR1 : Hid _ := hrun1
          have R1 : Hid (Out w v1 (flat bl hs) w2) := by
            have he := HE.out
            rw [List.drop_eq_nil_of_le (by rw [HM.out]; exact Nat.le_refl _), flatFrom] at he
            rw [← he, ← List.take_of_length_le (l := bl.drop prev) (i := n - prev) (by rw [List.length_drop, HN.out]; exact Nat.le_refl _)]
            exact O1
          clear hcut hln b1 k1 n1 O1 hrun1 HO2 HE HOUT hdl
          go_wp2_with (at_builtin; refine wpList_append_run _ rfl (.tmp 54) (.tmp 57) 22 22 rfl _ _ v1 w2 rfl rfl HR1.out ?_)
          go_ret
          exact ⟨v1, rfl, R1.out⟩

end Go.Proofs.Qxb6626320a.Flat
