/-
  LAW 'SCRIPT': what lies in memory while the law goes over the strings.
-/
import Derived.Test.Qxb6626320aPlain
namespace Go.Proofs.Qxb6626320a.Script
open Go.RowKit
open Go.Proofs.Qxb6626320a.Frame Go.Proofs.Qxb6626320a.Parts Go.Proofs.Qxb6626320a.Text Go.Proofs.Qxb6626320a.Recs Go.Proofs.Qxb6626320a.Flat Go.Proofs.Qxb6626320a.Plain
set_option linter.unusedVariables false
set_option linter.unusedSimpArgs false

def strs (l : List ByteArray) : List Value := l.map Value.string

theorem onward_new {w wr : World} {v v' : Value} (h : ∀ k, v.ownBlock = some k → w.heap.size ≤ k) (ho : Onward wr v v') (hs : w.heap.size ≤ wr.heap.size) : ∀ k, v'.ownBlock = some k → w.heap.size ≤ k := fun k hk => by
  rcases ho with e | ⟨g, e, hg⟩
  · exact h k (by rw [← e]; exact hk)
  · rw [e] at hk
    cases hk
    omega
/-- What was apart stays apart. -/
theorem onward_apart {wr : World} {v v' u : Value} (h : ∀ k, v.ownBlock = some k → u.ownBlock ≠ some k) (ho : Onward wr v v') (hu : ∀ k, u.ownBlock = some k → k < wr.heap.size) : ∀ k, v'.ownBlock = some k → u.ownBlock ≠ some k := fun k hk he => by
  rcases ho with e | ⟨g, e, hg⟩
  · exact h k (by rw [← e]; exact hk) he
  · rw [e] at hk
    cases hk
    have := hu k he
    omega

structure Sc (w : World) (rb : Nat) (vs vb vh vw vl : Value) (ss : List ByteArray) (bl : List UInt8) (hs : List (Nat × ByteArray)) (hl : Nat) (el : List UInt8) (ls : List ByteArray) (wr : World) : Prop where
  rcd : Rec wr rb vb vh bl hs hl
  want : OwnB wr vw el
  longs : wr.ownsRow 0 9 1 vl ls.length (strs ls)
  src : wr.ownsRow 0 9 1 vs ss.length (strs ss)
  below : Below w.heap.size w wr
  nr : w.heap.size ≤ rb
  nb : ∀ k, vb.ownBlock = some k → w.heap.size ≤ k
  nh : ∀ k, vh.ownBlock = some k → w.heap.size ≤ k
  nw : ∀ k, vw.ownBlock = some k → w.heap.size ≤ k
  nl : ∀ k, vl.ownBlock = some k → w.heap.size ≤ k
  d1 : ∀ k, vb.ownBlock = some k → vw.ownBlock ≠ some k
  d2 : ∀ k, vl.ownBlock = some k → vs.ownBlock ≠ some k

theorem Sc.text {w : World} {rb : Nat} {vs vb vh vw vl vb' vh' : Value} {ss : List ByteArray} {bl bl' : List UInt8} {hs hs' : List (Nat × ByteArray)} {hl hl' : Nat} {el : List UInt8} {ls : List ByteArray} {wr w1 : World} (h : Sc w rb vs vb vh vw vl ss bl hs hl el ls wr)
    (hr : Rec w1 rb vb' vh' bl' hs' hl') (hk : Kept (recS rb vb vh) wr w1) (ob : Onward wr vb vb') (oh : Onward wr vh vh') : Sc w rb vs vb' vh' vw vl ss bl' hs' hl' el ls w1 := by
  have keep : ∀ {e : TypeId} {v : Value} {n : Nat} {xs : List Value}, e = 9 → wr.ownsRow 0 e 1 v n xs → w1.ownsRow 0 e 1 v n xs := fun he ho => ownsRow_keep ho hk fun k hv => by
    subst he
    rintro (e | e | e)
    · subst e; exact ownsRow_type ho h.rcd.obj (by decide) hv
    · exact other_type ho h.rcd.ownb (by decide) hv e
    · exact other_type ho h.rcd.ownh (by decide) hv e
  have hlt : ∀ k, vw.ownBlock = some k → k < wr.heap.size := fun k hv => ownsRow_lt h.want hv
  refine ⟨hr, ownsRow_keep h.want hk fun k hv => ?_, keep rfl h.longs, keep rfl h.src, h.below.trans (hk.below h.below.size ?_), h.nr, onward_new h.nb ob h.below.size, onward_new h.nh oh h.below.size, h.nw, h.nl, onward_apart h.d1 ob hlt, h.d2⟩
  · rintro (e | e | e)
    · subst e; exact ownsRow_type h.want h.rcd.obj (by decide) hv
    · exact h.d1 k e hv
    · exact other_type h.want h.rcd.ownh (by decide) hv e
  · rintro k (rfl | e | e)
    · exact h.nr
    · exact h.nb k e
    · exact h.nh k e

theorem Sc.wanted {w : World} {rb : Nat} {vs vb vh vw vl vw' : Value} {ss : List ByteArray} {bl : List UInt8} {hs : List (Nat × ByteArray)} {hl : Nat} {el el' : List UInt8} {ls : List ByteArray} {wr w1 : World} (h : Sc w rb vs vb vh vw vl ss bl hs hl el ls wr)
    (ho : OwnB w1 vw' el') (hk : Kept (rowOf vw) wr w1) (on : Onward wr vw vw') : Sc w rb vs vb vh vw' vl ss bl hs hl el' ls w1 := by
  have keep : ∀ {v : Value} {n : Nat} {xs : List Value}, wr.ownsRow 0 9 1 v n xs → w1.ownsRow 0 9 1 v n xs := fun ho => ownsRow_keep ho hk fun k hv => other_type ho h.want (by decide) hv
  have hlt : ∀ k, vb.ownBlock = some k → k < wr.heap.size := fun k hv => ownsRow_lt h.rcd.ownb hv
  refine ⟨⟨hk.at h.rcd.obj (fun e => ownsRow_type h.want h.rcd.obj (by decide) e), ownsRow_keep h.rcd.ownb hk fun k hv e => h.d1 k hv e, ownsRow_keep h.rcd.ownh hk fun k hv => other_type h.rcd.ownh h.want (by decide) hv⟩, ho, keep h.longs, keep h.src, h.below.trans (hk.below h.below.size fun k e => h.nw k e), h.nr, h.nb, h.nh, onward_new h.nw on h.below.size, h.nl, ?_, h.d2⟩
  intro k hv e
  exact onward_apart (v := vw) (v' := vw') (u := vb) (fun k e hv => h.d1 k hv e) on hlt k e hv

theorem Sc.longed {w : World} {rb : Nat} {vs vb vh vw vl vl' : Value} {ss : List ByteArray} {bl : List UInt8} {hs : List (Nat × ByteArray)} {hl : Nat} {el : List UInt8} {ls ls' : List ByteArray} {wr w1 : World} (h : Sc w rb vs vb vh vw vl ss bl hs hl el ls wr)
    (ho : w1.ownsRow 0 9 1 vl' ls'.length (strs ls')) (hk : Kept (rowOf vl) wr w1) (on : Onward wr vl vl') : Sc w rb vs vb vh vw vl' ss bl hs hl el ls' w1 := by
  have hlt : ∀ k, vs.ownBlock = some k → k < wr.heap.size := fun k hv => ownsRow_lt h.src hv
  exact ⟨⟨hk.at h.rcd.obj (fun e => ownsRow_type h.longs h.rcd.obj (by decide) e), ownsRow_keep h.rcd.ownb hk fun k hv => other_type h.rcd.ownb h.longs (by decide) hv, ownsRow_keep h.rcd.ownh hk fun k hv => other_type h.rcd.ownh h.longs (by decide) hv⟩,
    ownsRow_keep h.want hk fun k hv => other_type h.want h.longs (by decide) hv, ho, ownsRow_keep h.src hk fun k hv e => h.d2 k e hv, h.below.trans (hk.below h.below.size fun k e => h.nl k e), h.nr, h.nb, h.nh, h.nw, onward_new h.nl on h.below.size, h.d1, onward_apart h.d2 on hlt⟩

/-- 'append(longs, s)'. -/
theorem push_long {w : World} {v : Value} {ls : List ByteArray} (h : w.ownsRow 0 9 1 v ls.length (strs ls)) (s : ByteArray) (hl : ls.length ≤ 1099511627776) :
    ∃ v' w', (Builtin.append_ #[24, 24] 24 #[v, .slice (some ⟨w.heap.size, 0, Option.none⟩) 1 1]).run Try.prog (w.alloc (.cells #[.string s] 9)) = .ok v' w' ∧ w'.ownsRow 0 9 1 v' (ls ++ [s]).length (strs (ls ++ [s])) ∧ Kept (rowOf v) w w' ∧ Onward w v v' := by
  obtain ⟨i, hi, hz, hs, hb⟩ := info_parts info9
  have hown : (w.alloc (.cells #[.string s] 9)).ownsRow 0 9 1 v ls.length (strs ls) := World.ownsRow.alloc h _
  obtain ⟨v', w', hrun, h1, h2, h3⟩ := run_append_owns (P := Try.prog) (w.alloc (.cells #[.string s] 9)) 24 24 24 9 i _ 1 16 Try.underlying24 hi hz hs hb rfl (by decide) v ls.length (strs ls) hown _ 1 [.string s] (src_one w 24 9 Try.underlying24 _ rfl 9) (by unfold maxLen; omega) (by omega)
  refine ⟨v', w', hrun, ?_, h2.alloc_from, ?_⟩
  · rw [List.length_append]
    have e : strs (ls ++ [s]) = strs ls ++ [.string s] := by simp [strs]
    rw [e]
    exact h1
  · rcases h3 with e | ⟨g, e, hg⟩
    · exact .inl e
    · exact .inr ⟨g, e, by rw [World.size_alloc] at hg; omega⟩

/-! ### the bound -/
def Bounded (n : Nat) (ss : List ByteArray) (e : Ending) : Prop := ∃ b, e = .returned (.bool b) ∧ (b = true → n ≤ 1048576 ∧ ∀ s ∈ ss, s.size ≤ 1048576)

set_option maxHeartbeats 1000000 in
set_option maxRecDepth 100000 in
theorem bytesS_any (ao : Option Addr) (n cap : Nat) (ss : List ByteArray) (w : World) (ha : At w ao (strs ss)) (hl : ss.length = n) (hm : n ≤ maxLen) (hs : ∀ s ∈ ss, s.size ≤ maxLen) :
    Calls Try.prog 17 #[.slice ao n cap] w fun e w' => Bounded n ss e ∧ w' = w := by
  unfold maxLen at hm
  have HA : Hid (At w ao (strs ss)) := ha
  have HL : Hid (ss.length = n) := hl
  have HS : Hid (∀ s ∈ ss, s.size ≤ maxLen) := hs
  clear ha hl hs
  by_cases h1 : (1048576 : Int) < (n : Int)
  · go_enter Try.func17, Try.ntmps17
    go_wp2
    go_ret
    exact ⟨⟨_, rfl, fun h => by cases h⟩, rfl⟩
  · go_enter Try.func17, Try.ntmps17
    go_wp2
    go_loop [3, 4] (fun zv iv => ∃ z i : Nat, z ≤ 1048576 ∧ i ≤ n ∧ zv = .int .i64 z ∧ iv = .int .i64 i ∧ Hid (∀ s ∈ ss.take i, s.size ≤ 1048576)) (fun _ iv => n - (intOf iv).toNat)
    case atStart => exact ⟨n, 0, by omega, Nat.zero_le _, rfl, rfl, (fun s hs => by simp at hs : ∀ s ∈ ss.take 0, s.size ≤ 1048576)⟩
    case round =>
      obtain ⟨z, i, hz, hi, rfl, rfl, HT⟩ := hrel
      by_cases hlt : i < n
      · obtain ⟨s, hs⟩ : ∃ s, ss[i]? = some s := ⟨_, List.getElem?_eq_getElem (by rw [HL.out]; exact hlt)⟩
        obtain ⟨g, off, rfl, d1⟩ := HA.out i (.string s) (by simp [strs, hs])
        have hsz := HS.out s (List.mem_of_getElem? hs)
        unfold maxLen at hsz
        have HSI : Hid (ss[i]? = some s) := hs
        clear hs
        by_cases h2 : (1048576 : Int) < (s.size : Int)
        · go_wp2
          go_ret
          exact ⟨⟨_, rfl, fun h => by cases h⟩, rfl⟩
        · by_cases h3 : (1048576 : Int) < (z : Int) + (s.size : Int)
          · go_wp2
            go_ret
            exact ⟨⟨_, rfl, fun h => by cases h⟩, rfl⟩
          · go_wp2
            go_round
            case rel =>
              refine ⟨z + s.size, i + 1, by omega, by omega, by go_num, by go_num, ?_⟩
              intro t ht
              rw [List.take_add_one, HSI.out, List.mem_append] at ht
              rcases ht with ht | ht
              · exact HT.out t ht
              · simp at ht; subst ht; omega
            case measure => simp [intOf]; omega
      · go_wp2
        go_ret
        refine ⟨⟨_, rfl, fun _ => ⟨by omega, fun s hs => HT.out s ?_⟩⟩, rfl⟩
        rw [List.take_of_length_le (by rw [HL.out]; omega)]
        exact hs

/-! ### sums -/
def tot (l : List ByteArray) : Nat := (l.map fun s => 16 + s.size).sum
theorem tot_snoc (l : List ByteArray) (s : ByteArray) : tot (l ++ [s]) = tot l + (16 + s.size) := by simp [tot]
theorem tot_take (l : List ByteArray) (i : Nat) : tot (l.take i) ≤ tot l := by
  have : tot l = tot (l.take i) + tot (l.drop i) := by
    conv => lhs; rw [← List.take_append_drop i l]
    unfold tot
    rw [List.map_append, List.sum_append]
  omega

structure Sums (l : List ByteArray) : Prop where
  b : (run l).bl.length ≤ tot l
  h : (run l).hs.length ≤ l.length
  hl : (run l).hl ≤ tot l
  e : (encAll l).length ≤ tot l
  g : (Plain.longs l).length ≤ l.length
  big : ∀ s ∈ l, s.size ≤ tot l

theorem sums_snoc {l : List ByteArray} (h : Sums l) (s : ByteArray) (hs : s.size ≤ 4194304) : Sums (l ++ [s]) := by
  have hu := Lib.uvarint_length64 (x := s.size) (by omega)
  have e : s.data.toList.length = s.size := by simp
  have h1 := h.b
  have h2 := h.h
  have h3 := h.hl
  have h4 := h.e
  have h5 := h.g
  refine ⟨?_, ?_, ?_, ?_, ?_, ?_⟩
  · rw [run_snoc, tot_snoc]
    unfold stp
    split
    · simp only [List.length_append, frame, e]; omega
    · simp only [List.length_append]; omega
  · rw [run_snoc]
    unfold stp
    split
    · simp only [List.length_append, List.length_cons, List.length_nil]; omega
    · simp only [List.length_append, List.length_cons, List.length_nil]; omega
  · rw [run_snoc, tot_snoc]
    unfold stp
    split
    · show (run l).hl ≤ _; omega
    · show (run l).hl + s.size ≤ _; omega
  · rw [encAll_snoc, tot_snoc]
    simp only [List.length_append, frame, e]; omega
  · rw [longs_snoc]
    split <;> simp only [List.length_append, List.length_cons, List.length_nil] <;> omega
  · intro t ht
    rw [tot_snoc]
    rcases List.mem_append.1 ht with ht | ht
    · have := h.big t ht; omega
    · simp at ht; subst ht; omega
theorem sums_take (ss : List ByteArray) (hs : ∀ s ∈ ss, s.size ≤ 4194304) : ∀ i, i ≤ ss.length → Sums (ss.take i)
  | 0, _ => ⟨Nat.le_refl _, Nat.le_refl _, Nat.le_refl _, Nat.le_refl _, Nat.le_refl _, fun s h => by simp at h⟩
  | i + 1, h => by
    have ih := sums_take ss hs i (by omega)
    rw [List.take_succ_eq_append_getElem (by omega)]
    exact sums_snoc ih _ (hs _ (List.getElem_mem _))

theorem Sc.later {w : World} {rb : Nat} {vs vb vh vw vl : Value} {ss : List ByteArray} {bl : List UInt8} {hs : List (Nat × ByteArray)} {hl : Nat} {el : List UInt8} {ls : List ByteArray} {wr w1 : World} (h : Sc w rb vs vb vh vw vl ss bl hs hl el ls wr) (hb : Below wr.heap.size wr w1) : Sc w rb vs vb vh vw vl ss bl hs hl el ls w1 := by
  have hk : Kept nothing wr w1 := Kept.of_below hb
  have keep : ∀ {e : TypeId} {size : Nat} {v : Value} {n : Nat} {xs : List Value}, wr.ownsRow 0 e size v n xs → w1.ownsRow 0 e size v n xs := fun ho => ownsRow_keep ho hk fun k _ h => h
  exact ⟨⟨hk.at h.rcd.obj (fun h => h), keep h.rcd.ownb, keep h.rcd.ownh⟩, keep h.want, keep h.longs, keep h.src, h.below.trans (hb.mono h.below.size), h.nr, h.nb, h.nh, h.nw, h.nl, h.d1, h.d2⟩


theorem Sc.cell {w : World} {rb : Nat} {vb vh vw vl : Value} {ss : List ByteArray} {bl : List UInt8} {hs : List (Nat × ByteArray)} {hl : Nat} {el : List UInt8} {ls : List ByteArray} {wr : World} {g off n cz i : Nat} {s : ByteArray} (h : Sc w rb (.slice (some ⟨g, off, Option.none⟩) n cz) vb vh vw vl ss bl hs hl el ls wr) (hs' : ss[i]? = some s) :
    wr.cell? ⟨g, off + i, Option.none⟩ = some (.string s) := by
  obtain ⟨az', cz', hv', _, _, hat, _⟩ := own_at h.src
  simp only [Value.slice.injEq] at hv'
  obtain ⟨ea, _, _⟩ := hv'
  subst ea
  obtain ⟨g2, off2, he, d1⟩ := hat i (.string s) (by simp [strs, hs'])
  cases he
  exact d1

theorem sc_start {w w1 : World} {vs : Value} {n : Nat} {ss : List ByteArray} (hl : ss.length = n) (hb : Below w.heap.size w w1) (ho : w1.ownsRow 0 9 1 vs n (strs ss)) :
    Sc w w1.heap.size vs (.slice Option.none 0 0) (.slice Option.none 0 0) (.slice Option.none 0 0) (.slice Option.none 0 0) ss [] [] 0 [] [] (w1.alloc (.cells #[.slice Option.none 0 0, .slice Option.none 0 0, .int .i64 0] 43)) := by
  refine ⟨⟨block_new _ _, World.ownsRow_nil _ _ _ _, World.ownsRow_nil _ _ _ _⟩, World.ownsRow_nil _ _ _ _, World.ownsRow_nil _ _ _ _, ?_, hb.alloc hb.size _, hb.size, ?_, ?_, ?_, ?_, ?_, ?_⟩
  · rw [hl]; exact World.ownsRow.alloc ho _
  all_goals (intro k hk; simp [Value.ownBlock] at hk)

end Go.Proofs.Qxb6626320a.Script
