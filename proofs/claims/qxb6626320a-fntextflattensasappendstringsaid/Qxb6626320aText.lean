/-
  THE WALKS of AppendString, (*Record).Uvarint, (*Record).Text.
-/
import Derived.Test.Qxb6626320aParts
namespace Go.Proofs.Qxb6626320a.Text
open Go.RowKit
open Go.Proofs.Qxb6626320a.Frame Go.Proofs.Qxb6626320a.Parts
set_option linter.unusedVariables false
set_option linter.unusedSimpArgs false

theorem own_slice {w : World} {e : TypeId} {size : Nat} {v : Value} {n : Nat} {xs : List Value} (h : w.ownsRow 0 e size v n xs) : ∃ ao m cap, v = .slice ao m cap := by
  rcases h.2 with ⟨rfl, _⟩ | ⟨g, cap, cur, rfl, _⟩
  · exact ⟨_, _, _, rfl⟩
  · exact ⟨_, _, _, rfl⟩
theorem own_slice_n {w : World} {e : TypeId} {size : Nat} {v : Value} {n : Nat} {xs : List Value} (h : w.ownsRow 0 e size v n xs) : ∃ ao cap, v = .slice ao n cap := by
  rcases h.2 with ⟨rfl, rfl⟩ | ⟨g, cap, cur, rfl, _⟩
  · exact ⟨_, _, rfl⟩
  · exact ⟨_, _, rfl⟩

/-- 'append(b, s...)'. -/
theorem push_str {w : World} {v : Value} {l : List UInt8} (h : OwnB w v l) (s : ByteArray) (hl : l.length + s.size ≤ 140737488355328) :
    ∃ v' w', (Builtin.append_ #[22, 9] 22 #[v, .string s]).run Try.prog w = .ok v' w' ∧ OwnB w' v' (l ++ s.data.toList) ∧ Kept (rowOf v) w w' ∧ Onward w v v' := by
  obtain ⟨i, hi, hz, hs, hb⟩ := info_parts info5
  obtain ⟨v', w', hrun, h1, h2, h3⟩ := run_append_owns (P := Try.prog) w 22 9 22 5 i _ 1 1 Try.underlying22 hi hz hs hb rfl (by decide) v l.length (bc l) h (.string s) s.size (byteCells s) (Src.ofString w Try.underlying9 s) (by unfold maxLen; omega) (by omega)
  refine ⟨v', w', hrun, ?_, h2, h3⟩
  unfold OwnB
  rw [bc_append, List.length_append, show s.data.toList.length = s.size from by simp]
  exact h1

set_option maxHeartbeats 1000000 in
set_option maxRecDepth 100000 in
theorem appendString_any (sv : Value) (s : ByteArray) (l : List UInt8) (w : World) (hown : OwnB w sv l) (hl : l.length ≤ 1099511627776) (hs : s.size ≤ 4194304) :
    Calls Try.prog 10 #[sv, .string s] w fun e w' => ∃ v', e = .returned v' ∧ OwnB w' v' (l ++ frame s.data.toList) ∧ Kept (rowOf sv) w w' ∧ Onward w sv v' := by
  have HO : Hid (OwnB w sv l) := hown
  clear hown
  go_enter Try.func10, Try.ntmps10
  go_wp2_with fail
  refine (appendUv_any s.size hs sv l w HO.out hl).mono ?_
  rintro e w1 ⟨v1, rfl, h1, k1, o1⟩
  have hlen := Lib.uvarint_length64 (x := s.size) (by omega)
  obtain ⟨v', w', hrun, h2, k2, o2⟩ := push_str h1 s (by rw [List.length_append]; omega)
  have HRUN : Hid _ := hrun
  have R1 : Hid (OwnB w' v' (l ++ frame s.data.toList)) := by
    have e : s.data.toList.length = s.size := by simp
    unfold frame
    rw [e, ← List.append_assoc]
    exact h2
  have R2 : Hid (Kept (rowOf sv) w w') := k1.onward o1 (fun _ h => h) k2
  have R3 : Hid (Onward w sv v') := o1.trans o2 k1.size
  clear hrun h1 h2 k1 k2 o1 o2 hlen
  go_wp2_with (at_builtin; refine wpList_append_run _ rfl (.tmp 10) (.tmp 11) 22 9 rfl _ _ v' w' rfl rfl HRUN.out ?_)
  go_ret
  exact ⟨v', rfl, R1.out, R2.out, R3.out⟩

/-! ### the record -/
def hc (hs : List (Nat × ByteArray)) : List Value := hs.flatMap fun p => [.int .i64 (p.1 : Int), .string p.2]
theorem hc_len : ∀ hs : List (Nat × ByteArray), (hc hs).length = hs.length * 2
  | [] => rfl
  | p :: r => by
    have := hc_len r
    simp only [hc, List.flatMap_cons, List.length_append, List.length_cons, List.length_nil] at this ⊢
    omega
theorem hc_append (a b : List (Nat × ByteArray)) : hc (a ++ b) = hc a ++ hc b := by simp [hc, List.flatMap_append]

/-- The record at rb: its bytes bl, its held strings hs, their length hl. -/
structure Rec (w : World) (rb : Nat) (vb vh : Value) (bl : List UInt8) (hs : List (Nat × ByteArray)) (hl : Nat) : Prop where
  obj : w.heap[rb]? = some (.cells #[vb, vh, .int .i64 (hl : Int)] 43 (0, 0))
  ownb : OwnB w vb bl
  ownh : w.ownsRow 0 46 2 vh hs.length (hc hs)

def recS (rb : Nat) (vb vh : Value) : Nat → Prop := fun k => k = rb ∨ rowOf vb k ∨ rowOf vh k

theorem Rec.cells {w : World} {rb : Nat} {vb vh : Value} {bl : List UInt8} {hs : List (Nat × ByteArray)} {hl : Nat} (h : Rec w rb vb vh bl hs hl) :
    w.cell? ⟨rb, 0, Option.none⟩ = some vb ∧ w.cell? ⟨rb, 1, Option.none⟩ = some vh ∧ w.cell? ⟨rb, 2, Option.none⟩ = some (.int .i64 (hl : Int)) ∧ w.frozen? ⟨rb, 0, Option.none⟩ = false ∧ w.frozen? ⟨rb, 1, Option.none⟩ = false ∧ w.frozen? ⟨rb, 2, Option.none⟩ = false :=
  ⟨by rw [cell_of h.obj]; rfl, by rw [cell_of h.obj]; rfl, by rw [cell_of h.obj]; rfl, free_of h.obj _, free_of h.obj _, free_of h.obj _⟩

/-- A row of another element type is another block. -/
theorem other_type {w : World} {e f : TypeId} {s1 s2 : Nat} {v u : Value} {n m : Nat} {xs ys : List Value} (h : w.ownsRow 0 e s1 v n xs) (k : w.ownsRow 0 f s2 u m ys) (hne : e ≠ f) {g : Nat} (hv : v.ownBlock = some g) : ¬ rowOf u g := by
  intro hu
  rcases k.2 with ⟨rfl, _⟩ | ⟨g', cap, cur, rfl, hb, hg, rest⟩
  · simp [rowOf, Value.ownBlock] at hu
  · simp [rowOf, Value.ownBlock] at hu
    subst hu
    exact ownsRow_type h hg hne hv

/-- r.b is grown by a callee and stored back. -/
theorem Rec.setB {w w1 : World} {rb : Nat} {vb vh vb' : Value} {bl bl' : List UInt8} {hs : List (Nat × ByteArray)} {hl : Nat} (h : Rec w rb vb vh bl hs hl) (ho : OwnB w1 vb' bl') (hk : Kept (rowOf vb) w w1) (hn : Onward w vb vb') :
    Rec (w1.setCell ⟨rb, 0, Option.none⟩ vb') rb vb' vh bl' hs hl ∧ Kept (recS rb vb vh) w (w1.setCell ⟨rb, 0, Option.none⟩ vb') := by
  have hrb : ¬ rowOf vb rb := fun he => ownsRow_type h.ownb h.obj (by decide) he
  have hobj1 := hk.at h.obj hrb
  have hrb' : vb'.ownBlock ≠ some rb := ownsRow_type ho hobj1 (by decide)
  have ownh1 : w1.ownsRow 0 46 2 vh hs.length (hc hs) := ownsRow_keep h.ownh hk fun k hk2 => other_type h.ownh h.ownb (by decide) hk2
  have hset : ∀ v : Value, v.ownBlock ≠ some rb → ∀ k, v.ownBlock = some k → k ≠ rb := fun v hv k hk2 e => hv (by rw [hk2, e])
  refine ⟨⟨?_, ?_, ?_⟩, ?_⟩
  · rw [block_set hobj1]; rfl
  · exact ownsRow_keep ho (S := fun k => k = rb) ((Kept.refl (fun k => k = rb) w1).setCell (p := ⟨rb, 0, Option.none⟩) (Or.inl rfl) _) (fun k hk2 e => hset vb' hrb' k hk2 e)
  · exact ownsRow_keep ownh1 (S := fun k => k = rb) ((Kept.refl (fun k => k = rb) w1).setCell (p := ⟨rb, 0, Option.none⟩) (Or.inl rfl) _) (fun k hk2 e => hset vh (ownsRow_type ownh1 hobj1 (by decide)) k hk2 e)
  · exact (hk.mono (T := recS rb vb vh) fun k _ hr => Or.inr (Or.inl hr)).setCell (p := ⟨rb, 0, Option.none⟩) (Or.inl (Or.inl rfl)) _

set_option maxHeartbeats 1000000 in
set_option maxRecDepth 100000 in
theorem uvarint_any (rb x : Nat) (vb vh : Value) (bl : List UInt8) (hs : List (Nat × ByteArray)) (hl : Nat) (w : World) (h : Rec w rb vb vh bl hs hl) (hx : x ≤ 4194304) (hb : bl.length ≤ 1099511627776) :
    Calls Try.prog 19 #[.pointer (some ⟨rb, 0, Option.none⟩), .int .u64 x] w fun e w' => e = .returned (.tuple #[]) ∧ ∃ vb', Rec w' rb vb' vh (bl ++ Lib.uvarint x) hs hl ∧ Kept (recS rb vb vh) w w' ∧ Onward w vb vb' := by
  have H : Hid (Rec w rb vb vh bl hs hl) := h
  obtain ⟨c0, c1, c2, f0, f1, f2⟩ := h.cells
  clear h
  go_enter Try.func19, Try.ntmps19
  go_wp2_with (go_at_call 18; refine (appendUv_any x hx vb bl _ H.out.ownb hb).mono ?_; rintro e w1 ⟨v1, rfl, h1, k1, o1⟩; have R : Hid _ := H.out.setB h1 k1 o1; have RO : Hid _ := o1; have hc1 : w1.cell? ⟨rb, 0, Option.none⟩ = some vb := k1.cell c0 (fun he => ownsRow_type H.out.ownb H.out.obj (by decide) he); have hf1 : w1.frozen? ⟨rb, 0, Option.none⟩ = false := free_of (k1.at H.out.obj (fun he => ownsRow_type H.out.ownb H.out.obj (by decide) he)) _; obtain ⟨a1, n1, cp1, rfl⟩ := own_slice h1; clear h1 k1 o1)
  go_end0
  exact ⟨rfl, _, R.out.1, R.out.2, RO.out⟩

/-! ### Text -/
theorem info46 : (Try.prog.info? 46).map (fun i => (i.zero, i.size, i.bytes)) = some (some (.agg #[.int .i64 0, .string ByteArray.empty]), 2, 24) := by kernel_rfl

/-- 'append(r.held, heldText{..})'. -/
theorem push_held {w : World} {v : Value} {hs : List (Nat × ByteArray)} (h : w.ownsRow 0 46 2 v hs.length (hc hs)) (n : Nat) (s : ByteArray) (hl : hs.length ≤ 1099511627776) :
    ∃ v' w', (Builtin.append_ #[41, 41] 41 #[v, .slice (some ⟨w.heap.size, 0, Option.none⟩) 1 1]).run Try.prog (w.alloc (.cells #[.int .i64 (n : Int), .string s] 46)) = .ok v' w' ∧ w'.ownsRow 0 46 2 v' (hs ++ [(n, s)]).length (hc (hs ++ [(n, s)])) ∧ Kept (rowOf v) w w' ∧ Onward w v v' := by
  obtain ⟨i, hi, hz, hsz, hb⟩ := info_parts info46
  have hown : (w.alloc (.cells #[.int .i64 (n : Int), .string s] 46)).ownsRow 0 46 2 v hs.length (hc hs) := World.ownsRow.alloc h _
  have hsrc : Src Try.prog 2 41 (.slice (some ⟨w.heap.size, 0, Option.none⟩) 1 1) 1 [.int .i64 (n : Int), .string s] (w.alloc (.cells #[.int .i64 (n : Int), .string s] 46)) :=
    Src.ofSlice (w.alloc (.cells #[.int .i64 (n : Int), .string s] 46)) Try.underlying41 ⟨w.heap.size, 0, Option.none⟩ 1 1 _ rfl (fun j x hj => by
      rw [Addr.add_lit, Nat.zero_add, cell_of (block_new _ _)]
      simpa using hj) (fun x hx => by
      simp at hx
      rcases hx with rfl | rfl <;> rfl)
  obtain ⟨v', w', hrun, h1, h2, h3⟩ := run_append_owns (P := Try.prog) (w.alloc (.cells #[.int .i64 (n : Int), .string s] 46)) 41 41 41 46 i _ 2 24 Try.underlying41 hi hz hsz hb rfl (by decide) v hs.length (hc hs) hown _ 1 _ hsrc (by unfold maxLen; omega) (by omega)
  refine ⟨v', w', hrun, ?_, h2.alloc_from, ?_⟩
  · rw [hc_append, List.length_append]
    exact h1
  · rcases h3 with e | ⟨g, e, hg⟩
    · exact .inl e
    · exact .inr ⟨g, e, by rw [World.size_alloc] at hg; omega⟩


set_option maxHeartbeats 1000000 in
set_option maxRecDepth 100000 in
theorem text_short (rb : Nat) (s : ByteArray) (vb vh : Value) (bl : List UInt8) (hs : List (Nat × ByteArray)) (hl : Nat) (w : World) (h : Rec w rb vb vh bl hs hl) (hsz : s.size < 4096) (hb : bl.length ≤ 1099511627776) :
    Calls Try.prog 12 #[.pointer (some ⟨rb, 0, Option.none⟩), .string s] w fun e w' => e = .returned (.tuple #[]) ∧ ∃ vb', Rec w' rb vb' vh (bl ++ frame s.data.toList) hs hl ∧ Kept (recS rb vb vh) w w' ∧ Onward w vb vb' := by
  have H : Hid (Rec w rb vb vh bl hs hl) := h
  obtain ⟨c0, c1, c2, f0, f1, f2⟩ := h.cells
  clear h
  have q : (s.size : Int) < 4096 := by omega
  go_enter Try.func12, Try.ntmps12
  go_wp2_with (go_at_call 10; refine (appendString_any vb s bl _ H.out.ownb hb (by omega)).mono ?_; rintro e w1 ⟨v1, rfl, h1, k1, o1⟩; have R : Hid _ := H.out.setB h1 k1 o1; have RO : Hid _ := o1; have hc1 : w1.cell? ⟨rb, 0, Option.none⟩ = some vb := k1.cell c0 (fun he => ownsRow_type H.out.ownb H.out.obj (by decide) he); have hf1 : w1.frozen? ⟨rb, 0, Option.none⟩ = false := free_of (k1.at H.out.obj (fun he => ownsRow_type H.out.ownb H.out.obj (by decide) he)) _; obtain ⟨a1, n1, cp1, rfl⟩ := own_slice h1; clear h1 k1 o1)
  go_returns
  exact ⟨rfl, _, R.out.1, R.out.2, RO.out⟩

/-- r.held is grown and stored back. -/
theorem Rec.setH {w w1 : World} {rb : Nat} {vb vh vh' : Value} {bl : List UInt8} {hs hs' : List (Nat × ByteArray)} {hl hl' : Nat} (h : Rec w rb vb vh bl hs hl) (ho : w1.ownsRow 0 46 2 vh' hs'.length (hc hs')) (hk : Kept (rowOf vh) w w1) (hn : Onward w vh vh') :
    Rec ((w1.setCell ⟨rb, 1, Option.none⟩ vh').setCell ⟨rb, 2, Option.none⟩ (.int .i64 (hl' : Int))) rb vb vh' bl hs' hl' ∧ Kept (recS rb vb vh) w ((w1.setCell ⟨rb, 1, Option.none⟩ vh').setCell ⟨rb, 2, Option.none⟩ (.int .i64 (hl' : Int))) := by
  have hrb : ¬ rowOf vh rb := fun he => ownsRow_type h.ownh h.obj (by decide) he
  have hobj1 := hk.at h.obj hrb
  have hrb' : vh'.ownBlock ≠ some rb := ownsRow_type ho hobj1 (by decide)
  have ownb1 : OwnB w1 vb bl := ownsRow_keep h.ownb hk fun k hk2 => other_type h.ownb h.ownh (by decide) hk2
  have hset : ∀ v : Value, v.ownBlock ≠ some rb → ∀ k, v.ownBlock = some k → k ≠ rb := fun v hv k hk2 e => hv (by rw [hk2, e])
  have hkk : Kept (fun k => k = rb) w1 ((w1.setCell ⟨rb, 1, Option.none⟩ vh').setCell ⟨rb, 2, Option.none⟩ (.int .i64 (hl' : Int))) :=
    ((Kept.refl (fun k => k = rb) w1).setCell (p := ⟨rb, 1, Option.none⟩) (Or.inl rfl) _).setCell (p := ⟨rb, 2, Option.none⟩) (Or.inl rfl) _
  refine ⟨⟨?_, ?_, ?_⟩, ?_⟩
  · rw [block_set (block_set hobj1 _ _)]; rfl
  · exact ownsRow_keep ownb1 hkk (fun k hk2 e => hset vb (ownsRow_type ownb1 hobj1 (by decide)) k hk2 e)
  · exact ownsRow_keep ho hkk (fun k hk2 e => hset vh' hrb' k hk2 e)
  · exact ((hk.mono (T := recS rb vb vh) fun k _ hr => Or.inr (Or.inr hr)).setCell (p := ⟨rb, 1, Option.none⟩) (Or.inl (Or.inl rfl)) _).setCell (p := ⟨rb, 2, Option.none⟩) (Or.inl (Or.inl rfl)) _

theorem kept_recS {w w1 w2 : World} {rb : Nat} {vb vh vb' : Value} (h : Kept (recS rb vb vh) w w1) (ho : Onward w vb vb') (k : Kept (recS rb vb' vh) w1 w2) : Kept (recS rb vb vh) w w2 :=
  ⟨k.os.trans h.os, k.tape.trans h.tape, k.output.trans h.output, Nat.le_trans h.size k.size, fun i hi hs => by
    rw [k.block i (Nat.lt_of_lt_of_le hi h.size) ?_, h.block i hi hs]
    rintro (e | e | e)
    · exact hs (Or.inl e)
    · rcases ho with q | ⟨g, q, hg⟩
      · exact hs (Or.inr (Or.inl (by unfold rowOf at e ⊢; rw [← q]; exact e)))
      · unfold rowOf at e
        rw [q] at e
        cases e
        omega
    · exact hs (Or.inr (Or.inr e))⟩

set_option maxHeartbeats 4000000 in
set_option maxRecDepth 100000 in
theorem text_long (rb : Nat) (s : ByteArray) (vb vh : Value) (bl : List UInt8) (hs : List (Nat × ByteArray)) (hl : Nat) (w : World) (h : Rec w rb vb vh bl hs hl) (hsz : 4096 ≤ s.size) (hsm : s.size ≤ 4194304) (hb : bl.length ≤ 1099511627776) (hh : hs.length ≤ 1099511627776) (hlm : hl ≤ 1099511627776) :
    Calls Try.prog 12 #[.pointer (some ⟨rb, 0, Option.none⟩), .string s] w fun e w' => e = .returned (.tuple #[]) ∧ ∃ vb' vh', Rec w' rb vb' vh' (bl ++ Lib.uvarint s.size) (hs ++ [((bl ++ Lib.uvarint s.size).length, s)]) (hl + s.size) ∧ Kept (recS rb vb vh) w w' ∧ Onward w vb vb' ∧ Onward w vh vh' := by
  have H : Hid (Rec w rb vb vh bl hs hl) := h
  clear h
  have q : ¬ (s.size : Int) < 4096 := by omega
  go_enter Try.func12, Try.ntmps12
  go_wp2_with fail
  refine (uvarint_any rb s.size vb vh bl hs hl w H.out hsm hb).mono ?_
  rintro e w1 ⟨rfl, vb', h1, k1, o1⟩
  obtain ⟨c0, c1, c2, f0, f1, f2⟩ := h1.cells
  have H1 : Hid (Rec w1 rb vb' vh (bl ++ Lib.uvarint s.size) hs hl) := h1
  have K1 : Hid (Kept (recS rb vb vh) w w1) := k1
  have O1 : Hid (Onward w vb vb') := o1
  obtain ⟨ab, cb, rfl⟩ := own_slice_n h1.ownb
  have hrb := lt_of_block h1.obj
  generalize hn1 : (bl ++ Lib.uvarint s.size).length = n1 at *
  have HN1 : Hid ((bl ++ Lib.uvarint s.size).length = n1) := hn1
  clear hn1
  obtain ⟨v', w2, hrun, h2, k2, o2⟩ := push_held (w := w1.drew) h1.ownh n1 s hh
  replace k2 := k2.drew_from
  have nrb : ¬ rowOf vh rb := fun he => ownsRow_type h1.ownh h1.obj (by decide) he
  have d1 : w2.cell? ⟨rb, 1, Option.none⟩ = some vh := k2.cell c1 nrb
  have d2 : w2.cell? ⟨rb, 2, Option.none⟩ = some (.int .i64 (hl : Int)) := k2.cell c2 nrb
  have e1 : w2.frozen? ⟨rb, 1, Option.none⟩ = false := free_of (k2.at h1.obj nrb) _
  have e2 : w2.frozen? ⟨rb, 2, Option.none⟩ = false := free_of (k2.at h1.obj nrb) _
  have R0 := h1.setH (hl' := hl + s.size) h2 k2 o2
  rw [show ((hl + s.size : Nat) : Int) = (hl : Int) + (s.size : Int) from by omega] at R0
  have R : Hid _ := R0
  clear R0
  have RO : Hid _ := o2
  obtain ⟨a2, n2, cp2, rfl⟩ := own_slice h2
  have HRUN : Hid ((Builtin.append_ #[41, 41] 41 #[vh, .slice (some ⟨w1.heap.size, 0, Option.none⟩) 1 1]).run Try.prog (w1.alloc (.cells #[.int .i64 (n1 : Int), .string s] 46)).drew = .ok (.slice a2 n2 cp2) w2) := hrun
  clear h1 k1 o1 h2 k2 o2 hrun nrb
  go_wp2
  go_region_law (refine step_append_run rfl (.tmp 25) (.tmp 33) 41 41 rfl _ _ _ w2 (by simp [Act.eval, Act.put]) (by simp [Act.eval, Act.put]) HRUN.out ?_)
  all_goals
    go_wp2
    go_end0
    refine ⟨rfl, .slice ab n1 cb, .slice a2 n2 cp2, ?_, kept_recS K1.out O1.out R.out.2, O1.out, (Onward.refl w vh).trans RO.out K1.out.size⟩
    rw [HN1.out]
    exact R.out.1

end Go.Proofs.Qxb6626320a.Text
