/-
  THE WALKS of the small functions (seat b6626320a).
-/
import Derived.Test.Qxb6626320aRows
import Derived.Test.Qxb6626320aFrame
import Derived.OpenShut
import Derived.ShutString
import Derived.ChangeOld
import Derived.Handy
import Derived.WalkSpells
import Derived.Deep.LoopGhost
import Derived.Deep.RegionWith
import Derived.Deep.OwnRows
import Derived.Lib.JoinLaws
import Derived.Lib.Varint
namespace Go.Proofs.Qxb6626320a.Parts
open Go.ChangeShapes Go.WideShapes Go.ChangeAt Go.RowKit
open Go.Proofs.Qxb6626320a.Frame
set_option linter.unusedVariables false
set_option linter.unusedSimpArgs false

theorem ret_bool {a b : Bool} (h : a = b) : Ending.returned (.bool a) = .returned (.bool b) := by rw [h]
theorem ret_int {k : IntKind} {a b : Int} (h : a = b) : Ending.returned (.int k a) = .returned (.int k b) := by rw [h]

/-- Bytes as cells. -/
def bc (l : List UInt8) : List Value := l.map fun b => Value.int .u8 (b.toNat : Int)
theorem bc_len (l : List UInt8) : (bc l).length = l.length := by simp [bc]
theorem bc_append (l m : List UInt8) : bc (l ++ m) = bc l ++ bc m := by simp [bc]
theorem bc_at {l : List UInt8} {i : Nat} {b : UInt8} (h : l[i]? = some b) : (bc l)[i]? = some (.int .u8 (b.toNat : Int)) := by simp [bc, h]
theorem bc_one (l : List UInt8) : ∀ u ∈ bc l, u.oneCell' = true := fun u hu => by
  obtain ⟨_, _, rfl⟩ := List.mem_map.1 hu
  rfl
theorem byte_le (b : UInt8) : (b.toNat : Int) ≤ 255 := by have := b.toNat_lt; omega

/-- The length ahead, then the bytes. -/
def frame (s : List UInt8) : List UInt8 := Lib.uvarint s.length ++ s

/-! ### zzEqBytes, of two slices that read alike -/
set_option maxHeartbeats 1000000 in
theorem eq_true (ao bo : Option Addr) (n ca cb : Nat) (l : List UInt8) (w : World) (ha : At w ao (bc l)) (hb : At w bo (bc l)) (hl : l.length = n) (hm : n ≤ 9223372036854775806) :
    Calls Try.prog 16 #[.slice ao n ca, .slice bo n cb] w fun e w' => e = .returned (.bool true) ∧ ∃ q, w' = w.drewN q := by
  have HA : Hid (At w ao (bc l)) := ha
  have HB : Hid (At w bo (bc l)) := hb
  have HL : Hid (l.length = n) := hl
  clear ha hb hl
  go_enter Try.func16, Try.ntmps16
  go_wp2
  go_loopw [5] (fun iv wr => ∃ i q : Nat, i ≤ n ∧ iv = .int .i64 i ∧ wr = w.drewN q) (fun iv _ => n - (intOf iv).toNat)
  case atStart => exact ⟨0, 0, Nat.zero_le _, rfl, rfl⟩
  case round =>
    obtain ⟨i, q, hi, rfl, rfl⟩ := hrel
    by_cases hlt : i < n
    · obtain ⟨b, hb⟩ : ∃ b, l[i]? = some b := ⟨_, List.getElem?_eq_getElem (by rw [HL.out]; exact hlt)⟩
      obtain ⟨g, o, rfl, c1⟩ := HA.out i _ (bc_at hb)
      obtain ⟨g2, o2, rfl, c2⟩ := HB.out i _ (bc_at hb)
      clear hb
      have hi1 : (i : Int) < (n : Int) := by omega
      go_wp2
      go_quiet (fail)
      go_wp2
      go_roundw
      case rel => exact ⟨i + 1, q + nq, by omega, by go_num, by simp [World.drewN, Nat.add_assoc]⟩
      case measure => simp [intOf]; omega
    · go_wp2
      go_ret
      exact ⟨rfl, q, rfl⟩

/-! ### zzUvLen -/
set_option maxRecDepth 100000 in
set_option maxHeartbeats 1000000 in
theorem uvLen_any (x : Nat) (hx : x ≤ 4194304) (w : World) :
    Calls Try.prog 14 #[.int .u64 x] w fun e w' => e = .returned (.int .i64 (Lib.uvarint x).length) ∧ w' = w := by
  have hlen := Lib.uvarint_length64 (x := x) (by omega)
  have HL : Hid ((Lib.uvarint x).length ≤ 10) := hlen
  clear hlen
  go_enter Try.func14, Try.ntmps14
  go_wp2
  go_loop [0, 3] (fun xv nv => ∃ y n : Nat, xv = .int .u64 y ∧ nv = .int .i64 n ∧ 1 ≤ n ∧ y ≤ x ∧ n ≤ 10 ∧ Hid ((Lib.uvarint x).length + 1 = n + (Lib.uvarint y).length)) (fun xv _ => (intOf xv).toNat)
  case atStart => exact ⟨x, 1, rfl, rfl, Nat.le_refl _, Nat.le_refl _, by omega, (by omega : (Lib.uvarint x).length + 1 = 1 + (Lib.uvarint x).length)⟩
  case round =>
    obtain ⟨y, n, rfl, rfl, h1, hy, h10, HE⟩ := hrel
    by_cases h128 : 128 ≤ y
    · have H2 : Hid ((Lib.uvarint x).length + 1 = (n + 1) + (Lib.uvarint (y / 128)).length) := by
        have := HE.out
        rw [Lib.uvarint_big h128, List.length_cons] at this
        show _ = _
        omega
      have h11 : n + 1 ≤ 10 := by
        have a := H2.out
        have b := HL.out
        have c := Lib.uvarint_pos (y / 128)
        omega
      clear HE
      go_wp2
      go_round
      case rel => exact ⟨y / 128, n + 1, by go_num, by go_num, by omega, by omega, by omega, H2⟩
      case measure => simp [intOf]; omega
    · have H2 : Hid ((Lib.uvarint x).length = n) := by
        have := HE.out
        rw [Lib.uvarint_small (x := y) (by omega)] at this
        simp at this
        exact this
      clear HE
      go_wp2
      go_ret
      exact ⟨ret_int (by rw [H2.out]), rfl⟩

/-! ### AppendUvarint -/
theorem info5 : (Try.prog.info? 5).map (fun i => (i.zero, i.size, i.bytes)) = some (some (.int .u8 0), 1, 1) := by kernel_rfl

/-- An owned row of bytes. -/
def OwnB (w : World) (v : Value) (l : List UInt8) : Prop := w.ownsRow 0 5 1 v l.length (bc l)

theorem src_one (w : World) (t e : TypeId) (ht : Try.prog.underlying t = some (.slice e)) (v : Value) (h1 : v.oneCell' = true) (u : TypeId) : Src Try.prog 1 t (.slice (some ⟨w.heap.size, 0, Option.none⟩) 1 1) 1 [v] (w.alloc (.cells #[v] u)) :=
  Src.ofSlice (w.alloc (.cells #[v] u)) ht ⟨w.heap.size, 0, Option.none⟩ 1 1 [v] rfl (fun j x hj => by
    match j, hj with
    | 0, hj => simp at hj; subst hj; exact (cell_of (block_new _ _) _).trans rfl) (fun x hx => by simp at hx; subst hx; exact h1)

/-- 'append(b, c)'. -/
theorem push_byte {w : World} {v : Value} {l : List UInt8} (h : OwnB w v l) (x : UInt8) (hl : l.length + 1 ≤ 140737488355328) :
    ∃ v' w', (∀ c : Int, c = (x.toNat : Int) → (Builtin.append_ #[22, 22] 22 #[v, .slice (some ⟨w.heap.size, 0, Option.none⟩) 1 1]).run Try.prog (w.alloc (.cells #[.int .u8 c] 5)) = .ok v' w') ∧ OwnB w' v' (l ++ [x]) ∧ Kept (rowOf v) w w' ∧ Onward w v v' := by
  obtain ⟨i, hi, hz, hs, hb⟩ := info_parts info5
  have hown : (w.alloc (.cells #[.int .u8 (x.toNat : Int)] 5)).ownsRow 0 5 1 v l.length (bc l) := World.ownsRow.alloc h _
  obtain ⟨v', w', hrun, h1, h2, h3⟩ := run_append_owns (P := Try.prog) (w.alloc (.cells #[.int .u8 (x.toNat : Int)] 5)) 22 22 22 5 i _ 1 1 Try.underlying22 hi hz hs hb rfl (by decide) v l.length (bc l) hown _ 1 [.int .u8 (x.toNat : Int)] (src_one w 22 5 Try.underlying22 _ rfl 5) (by unfold maxLen; omega) (by omega)
  refine ⟨v', w', fun c hc => by rw [hc]; exact hrun, ?_, h2.alloc_from, ?_⟩
  · unfold OwnB
    rw [bc_append, List.length_append]
    exact h1
  · rcases h3 with e | ⟨g, e, hg⟩
    · exact .inl e
    · exact .inr ⟨g, e, by rw [World.size_alloc] at hg; omega⟩

set_option maxHeartbeats 2000000 in
set_option maxRecDepth 100000 in
theorem appendUv_any (x : Nat) (hx : x ≤ 4194304) (sv : Value) (l : List UInt8) (w : World) (hown : OwnB w sv l) (hl : l.length ≤ 1099511627776) :
    Calls Try.prog 18 #[sv, .int .u64 x] w fun e w' => ∃ v', e = .returned v' ∧ OwnB w' v' (l ++ Lib.uvarint x) ∧ Kept (rowOf sv) w w' ∧ Onward w sv v' := by
  have hlen := Lib.uvarint_length64 (x := x) (by omega)
  have HL : Hid ((Lib.uvarint x).length ≤ 10) := hlen
  have HO : Hid (OwnB w sv l) := hown
  clear hlen hown
  go_enter Try.func18, Try.ntmps18
  go_wp2
  go_loopw [0, 1] (fun bv vx wr => ∃ (vb : Value) (y : Nat) (pre : List UInt8), bv = vb ∧ vx = .int .u64 y ∧ y ≤ x ∧ Hid (Lib.uvarint x = pre ++ Lib.uvarint y) ∧ Hid (OwnB wr vb (l ++ pre)) ∧ Hid (Kept (rowOf sv) w wr) ∧ Hid (Onward w sv vb))
    (fun _ vx _ => (intOf vx).toNat)
  case atStart => exact ⟨sv, x, [], rfl, rfl, Nat.le_refl _, rfl, (by rw [List.append_nil]; exact HO.out : OwnB w sv (l ++ [])), Kept.refl _ _, Onward.refl _ _⟩
  case round =>
    obtain ⟨vb, y, pre, rfl, rfl, hy, HS, HOW, HK, HN⟩ := hrel
    have hpl : pre.length + (Lib.uvarint y).length ≤ 10 := by
      have h2 := congrArg List.length HS.out
      rw [List.length_append] at h2
      have := HL.out
      omega
    have hyp := Lib.uvarint_pos y
    have HLL : Hid ((l ++ pre).length + 1 ≤ 140737488355328) := by show _ ≤ _; rw [List.length_append]; omega
    clear hpl hyp
    by_cases h128 : 128 ≤ y
    · obtain ⟨v', w1, hrun, h1, h2, h3⟩ := push_byte HOW.out (y % 128 + 128).toUInt8 HLL.out
      have HRUN : Hid _ := hrun
      have hor : bits .or .u8 ((y : Int) % 256) 128 = (y : Int) % 128 + 128 := by
        rw [Lib.u8_or128_any _ (by omega) (by omega)]
        omega
      have R1 : Hid (OwnB w1 v' (l ++ (pre ++ [(y % 128 + 128).toUInt8]))) := by rw [← List.append_assoc]; exact h1
      have R2 : Hid (Kept (rowOf sv) w w1) := HK.out.onward HN.out (fun _ h => h) h2
      have R3 : Hid (Onward w sv v') := HN.out.trans h3 HK.out.size
      have R4 : Hid (Lib.uvarint x = (pre ++ [(y % 128 + 128).toUInt8]) ++ Lib.uvarint (y / 128)) := by show _ = _; rw [HS.out, Lib.uvarint_big h128]; simp
      clear hrun h1 h2 h3
      go_wp2_with (at_builtin; refine wpList_append_run _ rfl (.tmp 7) (.tmp 11) 22 22 rfl _ _ v' w1 rfl rfl (HRUN.out _ ?_) ?_; (have : (y % 128 + 128).toUInt8.toNat = y % 128 + 128 := by (rw [Nat.toUInt8, UInt8.toNat_ofNat']; omega)); omega)
      go_roundw
      case rel => exact ⟨v', y / 128, _, rfl, by go_num, by omega, R4, R1, R2, R3⟩
      case measure => simp [intOf]; omega
    · obtain ⟨v', w1, hrun, h1, h2, h3⟩ := push_byte HOW.out y.toUInt8 HLL.out
      have HRUN : Hid _ := hrun
      have R1 : Hid (OwnB w1 v' (l ++ Lib.uvarint x)) := by
        rw [HS.out, Lib.uvarint_small (by omega), ← List.append_assoc]; exact h1
      have R2 : Hid (Kept (rowOf sv) w w1) := HK.out.onward HN.out (fun _ h => h) h2
      have R3 : Hid (Onward w sv v') := HN.out.trans h3 HK.out.size
      clear hrun h1 h2 h3
      go_wp2_with (at_builtin; refine wpList_append_run _ rfl (.tmp 15) (.tmp 18) 22 22 rfl _ _ v' w1 rfl rfl (HRUN.out _ ?_) ?_; (have : y.toUInt8.toNat = y := by (rw [Nat.toUInt8, UInt8.toNat_ofNat']; omega)); omega)
      go_ret
      exact ⟨v', rfl, R1.out, R2.out, R3.out⟩

end Go.Proofs.Qxb6626320a.Parts
