/-
  THE WALK of ZZNewRecord.
-/
import Derived.Test.Qxb6626320aFlattensHeap
namespace Go.Proofs.Qxb6626320a.Flattens
open Go.RowKit
open Go.Proofs.Qxb6626320a.Frame Go.Proofs.Qxb6626320a.Parts Go.Proofs.Qxb6626320a.Text Go.Proofs.Qxb6626320a.Recs Go.Proofs.Qxb6626320a.Flat Go.Proofs.Qxb6626320a.Plain
open Go.Proofs.Qxb6626320a.Script (strs tot)
set_option linter.unusedVariables false
set_option linter.unusedSimpArgs false

/-- r.held is grown and stored back. -/
theorem Rec.setH1 {w w1 : World} {rb : Nat} {vb vh vh' : Value} {bl : List UInt8} {hs hs' : List (Nat × ByteArray)} {hl : Nat} (h : Rec w rb vb vh bl hs hl) (ho : w1.ownsRow 0 46 2 vh' hs'.length (hc hs')) (hk : Kept (rowOf vh) w w1) :
    Rec (w1.setCell ⟨rb, 1, Option.none⟩ vh') rb vb vh' bl hs' hl := by
  have hrb : ¬ rowOf vh rb := fun he => ownsRow_type h.ownh h.obj (by decide) he
  have hobj1 := hk.at h.obj hrb
  have hrb' : vh'.ownBlock ≠ some rb := ownsRow_type ho hobj1 (by decide)
  have ownb1 : OwnB w1 vb bl := ownsRow_keep h.ownb hk fun k hk2 => other_type h.ownb h.ownh (by decide) hk2
  have hset : ∀ v : Value, v.ownBlock ≠ some rb → ∀ k, v.ownBlock = some k → k ≠ rb := fun v hv k hk2 e => hv (by rw [hk2, e])
  have hkk : Kept (fun k => k = rb) w1 (w1.setCell ⟨rb, 1, Option.none⟩ vh') := (Kept.refl (fun k => k = rb) w1).setCell (p := ⟨rb, 1, Option.none⟩) (Or.inl rfl) _
  refine ⟨?_, ?_, ?_⟩
  · rw [block_set hobj1]; rfl
  · exact ownsRow_keep ownb1 hkk (fun k hk2 e => hset vb (ownsRow_type ownb1 hobj1 (by decide)) k hk2 e)
  · exact ownsRow_keep ho hkk (fun k hk2 e => hset vh' hrb' k hk2 e)

/-- The record under way. -/
structure Made (w : World) (vb vh : Value) (bl : List UInt8) (hp : List (Nat × ByteArray)) (hl : Nat) (wr : World) : Prop where
  rcd : Rec wr w.heap.size vb vh bl hp hl
  below : Below w.heap.size w wr
  new : ∀ k, vh.ownBlock = some k → w.heap.size ≤ k

theorem Made.start {w : World} {vb : Value} {bl : List UInt8} (h : OwnB w vb bl) (hl : Nat) : Made w vb (.slice Option.none 0 0) bl [] hl (w.alloc (.cells #[vb, .slice Option.none 0 0, .int .i64 (hl : Int)] 43)) :=
  ⟨⟨block_new _ _, World.ownsRow.alloc h _, World.ownsRow_nil _ _ _ _⟩, (Below.refl _ _).alloc (Nat.le_refl _) _, fun k hk => by simp [Value.ownBlock] at hk⟩

theorem Made.step {w wr w2 : World} {vb vh vh' : Value} {bl : List UInt8} {hp hp' : List (Nat × ByteArray)} {hl : Nat} (h : Made w vb vh bl hp hl wr) (ho : w2.ownsRow 0 46 2 vh' hp'.length (hc hp')) (hk : Kept (rowOf vh) wr w2) (hn : Onward wr vh vh') :
    Made w vb vh' bl hp' hl (w2.setCell ⟨w.heap.size, 1, Option.none⟩ vh') :=
  ⟨Rec.setH1 h.rcd ho hk, (h.below.trans (hk.below h.below.size fun k hr => h.new k hr)).setCell (Nat.le_refl _) _, Script.onward_new h.new hn h.below.size⟩

theorem Made.keep {w wr w2 : World} {vb vh : Value} {bl : List UInt8} {hp : List (Nat × ByteArray)} {hl : Nat} (h : Made w vb vh bl hp hl wr) (hb : Below wr.heap.size wr w2) : Made w vb vh bl hp hl w2 := by
  have hk : Kept nothing wr w2 := Kept.of_below hb
  exact ⟨⟨hk.at h.rcd.obj (fun h => h), ownsRow_keep h.rcd.ownb hk fun _ _ h => h, ownsRow_keep h.rcd.ownh hk fun _ _ h => h⟩, h.below.trans (hb.mono h.below.size), h.new⟩

set_option maxHeartbeats 4000000 in
set_option maxRecDepth 100000 in
theorem newRec_any (vb : Value) (aa az : Option Addr) (m ca cs : Nat) (bl : List UInt8) (hs : List (Nat × ByteArray)) (hl : Nat) (w : World) (hb : OwnB w vb bl) (ha : At w aa (atCells hs)) (hss : At w az (sCells hs)) (hm : hs.length = m) (hmm : m ≤ 4194304) :
    Calls Try.prog 11 #[vb, .slice aa m ca, .slice az m cs, .int .i64 (hl : Int)] w fun e w' => e = .returned (.pointer (some ⟨w.heap.size, 0, Option.none⟩)) ∧ ∃ vh, Made w vb vh bl hs hl w' := by
  have HM : Hid (hs.length = m) := hm
  have HAA : Hid (At w aa (atCells hs)) := ha
  have HAZ : Hid (At w az (sCells hs)) := hss
  have HST : Hid (Made w vb (.slice Option.none 0 0) bl (hs.take 0) hl (w.alloc (.cells #[vb, .slice Option.none 0 0, .int .i64 (hl : Int)] 43))) := Made.start hb hl
  obtain ⟨ab, cb, rfl⟩ := own_slice_n hb
  clear ha hss hm hb
  go_enter Try.func11, Try.ntmps11
  go_wp2
  generalize (w.alloc (.cells #[.slice ab bl.length cb, .slice Option.none 0 0, .int .i64 (hl : Int)] 43)) = w2 at HST ⊢
  go_loopw [10] (fun iv wr => ∃ (i : Nat) (vh : Value), i ≤ m ∧ iv = .int .i64 i ∧ Hid (Made w (.slice ab bl.length cb) vh bl (hs.take i) hl wr)) (fun iv _ => m - (intOf iv).toNat)
  case atStart => exact ⟨0, _, Nat.zero_le _, rfl, HST⟩
  case round =>
    clear HST
    obtain ⟨i, vh, hi, rfl, HMD⟩ := hrel
    by_cases hlt : i < m
    · obtain ⟨p, hp⟩ : ∃ p, hs[i]? = some p := ⟨_, List.getElem?_eq_getElem (by rw [HM.out]; exact hlt)⟩
      obtain ⟨g1, f1, rfl, u1⟩ := HAA.out i (.int .i64 (p.1 : Int)) (by simp [atCells, hp])
      obtain ⟨g2, f2, rfl, u2⟩ := HAZ.out i (.string p.2) (by simp [sCells, hp])
      have v1 : wr.cell? ⟨g1, f1 + i, Option.none⟩ = some (.int .i64 (p.1 : Int)) := (HMD.out.below.cell (lt_of_cell u1)).trans u1
      have v2 : wr.cell? ⟨g2, f2 + i, Option.none⟩ = some (.string p.2) := (HMD.out.below.cell (lt_of_cell u2)).trans u2
      obtain ⟨c0, c1, c2, e0, e1, e2⟩ := HMD.out.rcd.cells
      have hrb := lt_of_block HMD.out.rcd.obj
      have htk : hs.take (i + 1) = hs.take i ++ [(p.1, p.2)] := by rw [List.take_add_one, hp]; rfl
      obtain ⟨v', w3, hrun, h2, k2, o2⟩ := push_held (w := wr.drew) HMD.out.rcd.ownh p.1 p.2 (by rw [List.length_take]; omega)
      replace k2 := k2.drew_from
      have nrb : ¬ rowOf vh w.heap.size := fun he => ownsRow_type HMD.out.rcd.ownh HMD.out.rcd.obj (by decide) he
      have d1 : w3.cell? ⟨w.heap.size, 1, Option.none⟩ = some vh := k2.cell c1 nrb
      have x1 : w3.frozen? ⟨w.heap.size, 1, Option.none⟩ = false := free_of (k2.at HMD.out.rcd.obj nrb) _
      rw [← htk] at h2
      have R : Hid _ := HMD.out.step h2 k2 o2
      obtain ⟨a2, n2, cp2, rfl⟩ := own_slice h2
      have HRUN : Hid ((Builtin.append_ #[41, 41] 41 #[vh, .slice (some ⟨wr.heap.size, 0, Option.none⟩) 1 1]).run Try.prog (wr.alloc (.cells #[.int .i64 (p.1 : Int), .string p.2] 46)).drew = .ok (.slice a2 n2 cp2) w3) := hrun
      clear hp u1 u2 htk h2 k2 o2 hrun nrb c0 c2 e0 e2 HMD
      go_wp2
      go_region_law (refine step_append_run rfl (.tmp 31) (.tmp 41) 41 41 rfl _ _ _ w3 (by simp [Act.eval, Act.put]) (by simp [Act.eval, Act.put]) HRUN.out ?_)
      all_goals
        go_wp2
        go_roundw
        case rel => exact ⟨i + 1, _, by omega, by go_num, R⟩
        case measure => simp [intOf]; omega
    · obtain rfl : i = m := by omega
      have R := HMD.out
      rw [List.take_of_length_le (by rw [HM.out]; exact Nat.le_refl _)] at R
      have RH : Hid _ := R
      clear R HMD
      go_wp2
      go_ret
      exact ⟨rfl, vh, RH.out⟩

end Go.Proofs.Qxb6626320a.Flattens
