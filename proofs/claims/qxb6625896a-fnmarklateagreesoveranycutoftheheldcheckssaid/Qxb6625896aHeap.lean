/-
  WHAT LIES IN MEMORY: checks in blocks of their own, pointers to them in an array; how the closure's two stores and DeleteFunc's store turn it.
-/
import Derived.Test.Qxb6625896aParts
namespace Go.Proofs.Qxb6625896a.Heap
open Go.RowKit
open Go.Proofs.Qxb6625896a.Plain Go.Proofs.Qxb6625896a.Frame Go.Proofs.Qxb6625896a.Parts
set_option linter.unusedVariables false
set_option linter.unusedSimpArgs false

def ptr (b : Nat) : Value := .pointer (some ⟨b, 0, Option.none⟩)

/-- The blocks bs hold the checks cs, one each. -/
def Objs (w : World) : List Nat → List Chk → Prop
  | [], [] => True
  | b :: bs, c :: cs => w.heap[b]? = some (chkObj c) ∧ Objs w bs cs
  | _, _ => False

theorem Objs.length {w : World} : ∀ {bs : List Nat} {cs : List Chk}, Objs w bs cs → bs.length = cs.length
  | [], [], _ => rfl
  | [], c :: cs, h => h.elim
  | b :: bs, [], h => h.elim
  | b :: bs, c :: cs, h => by simp [Objs.length h.2]

theorem Objs.append {w : World} : ∀ {bs : List Nat} {cs : List Chk} {bs' : List Nat} {cs' : List Chk}, Objs w bs cs → Objs w bs' cs' → Objs w (bs ++ bs') (cs ++ cs')
  | [], [], _, _, _, h' => h'
  | [], c :: cs, _, _, h, _ => h.elim
  | b :: bs, [], _, _, h, _ => h.elim
  | b :: bs, c :: cs, _, _, h, h' => ⟨h.1, h.2.append h'⟩

theorem Objs.split {w : World} : ∀ {bs : List Nat} {cs : List Chk} {bs' : List Nat} {cs' : List Chk}, bs.length = cs.length → Objs w (bs ++ bs') (cs ++ cs') → Objs w bs cs ∧ Objs w bs' cs'
  | [], [], _, _, _, h' => ⟨trivial, h'⟩
  | [], c :: cs, _, _, h, _ => by simp at h
  | b :: bs, [], _, _, h, _ => by simp at h
  | b :: bs, c :: cs, _, _, h, h' => by
    have := Objs.split (bs := bs) (cs := cs) (by simpa using h) h'.2
    exact ⟨⟨h'.1, this.1⟩, this.2⟩

theorem Objs.at {w : World} : ∀ {bs : List Nat} {cs : List Chk}, Objs w bs cs → ∀ {i b : Nat} {c : Chk}, bs[i]? = some b → cs[i]? = some c → w.heap[b]? = some (chkObj c)
  | [], _, _, i, _, _, hb, _ => by simp at hb
  | b :: bs, [], h, _, _, _, _, _ => h.elim
  | b :: bs, c :: cs, h, 0, _, _, hb, hc => by simp at hb hc; subst hb; subst hc; exact h.1
  | b :: bs, c :: cs, h, i + 1, _, _, hb, hc => Objs.at h.2 (by simpa using hb) (by simpa using hc)

/-- What is read only hangs on the blocks. -/
theorem Objs.congr {w w' : World} : ∀ {bs : List Nat} {cs : List Chk}, Objs w bs cs → (∀ b ∈ bs, w'.heap[b]? = w.heap[b]?) → Objs w' bs cs
  | [], [], _, _ => trivial
  | [], c :: cs, h, _ => h.elim
  | b :: bs, [], h, _ => h.elim
  | b :: bs, c :: cs, h, k => ⟨(k b (by simp)).trans h.1, h.2.congr fun x hx => k x (by simp [hx])⟩

theorem Objs.mem {w : World} : ∀ {bs : List Nat} {cs : List Chk}, Objs w bs cs → ∀ b ∈ bs, ∃ c, w.heap[b]? = some (chkObj c)
  | [], _, _, b, hb => by simp at hb
  | b :: bs, [], h, _, _ => h.elim
  | b :: bs, c :: cs, h, x, hx => by
    rcases List.mem_cons.1 hx with rfl | hx
    · exact ⟨c, h.1⟩
    · exact Objs.mem h.2 x hx

/-- Pointers to the blocks l lie in A from place k on. -/
def RowA (A : Array Value) (k : Nat) (l : List Nat) : Prop := ∀ i b, l[i]? = some b → A[k + i]? = some (ptr b)

theorem RowA.cons {A : Array Value} {k b : Nat} {l : List Nat} (h : RowA A k (b :: l)) : A[k]? = some (ptr b) ∧ RowA A (k + 1) l :=
  ⟨by simpa using h 0 b rfl, fun i c hc => by rw [show k + 1 + i = k + (i + 1) by omega]; exact h (i + 1) c (by simpa using hc)⟩
theorem RowA.snoc {A : Array Value} {k b : Nat} {l : List Nat} (h : RowA A k l) (hs : k + l.length < A.size) : RowA (A.setIfInBounds (k + l.length) (ptr b)) k (l ++ [b]) := by
  intro i c hc
  by_cases hi : i < l.length
  · rw [List.getElem?_append_left hi] at hc
    rw [Array.getElem?_setIfInBounds_ne (by omega)]
    exact h i c hc
  · rw [List.getElem?_append_right (by omega)] at hc
    obtain rfl : i = l.length := by
      have := (List.getElem?_eq_some_iff.1 hc).1
      simp at this
      omega
    simp at hc
    subst hc
    rw [Array.getElem?_setIfInBounds_self_of_lt hs]
theorem RowA.set_before {A : Array Value} {k j : Nat} {v : Value} {l : List Nat} (h : RowA A k l) (hj : j < k) : RowA (A.setIfInBounds j v) k l := fun i c hc => by
  rw [Array.getElem?_setIfInBounds_ne (by omega)]
  exact h i c hc
theorem RowA.drop {A : Array Value} {k : Nat} {l l' : List Nat} (h : RowA A k (l ++ l')) : RowA A (k + l.length) l' := fun i c hc => by
  rw [show k + l.length + i = k + (l.length + i) by omega]
  exact h _ c (by rw [List.getElem?_append_right (by omega)]; simpa using hc)
theorem RowA.take {A : Array Value} {k : Nat} {l l' : List Nat} (h : RowA A k (l ++ l')) : RowA A k l := fun i c hc => h i c (by
  rw [List.getElem?_append_left (List.getElem?_eq_some_iff.1 hc).1]; exact hc)

/-- The whole state that markLate works on. bi: the box of 'includes'; bp: the box of 's'. -/
structure St (w : World) (sb pb bi bp len cap : Nat) (inc wait : Int) (L : Nat) (bs : List Nat) (cs : List Chk) : Prop where
  objs : Objs w bs cs
  nodup : bs.Nodup
  slot : w.heap[sb]? = some (slotObj pb len cap L wait)
  hi : w.heap[bi]? = some (.cells #[.int .u64 inc] 23 (0, 0))
  hp : w.heap[bp]? = some (.cells #[.pointer (some ⟨sb, 0, Option.none⟩)] 29 (0, 0))


theorem St.drewN {w : World} {sb pb bi bp len cap : Nat} {inc wait : Int} {L : Nat} {bs : List Nat} {cs : List Chk} (h : St w sb pb bi bp len cap inc wait L bs cs) (n : Nat) : St (w.drewN n) sb pb bi bp len cap inc wait L bs cs :=
  ⟨h.objs.congr (fun _ _ => rfl), h.nodup, h.slot, h.hi, h.hp⟩

/-- Two blocks of different makes are two. -/
theorem ne_of {w : World} {b k : Nat} {A B : Array Value} {t u : TypeId} (hb : w.heap[b]? = some (.cells A t (0, 0))) (hk : w.heap[k]? = some (.cells B u (0, 0))) (h : t ≠ u) : b ≠ k := by
  rintro rfl
  rw [hb] at hk
  simp at hk
  exact h hk.2

theorem St.not_mem {w : World} {sb pb bi bp len cap : Nat} {inc wait : Int} {L : Nat} {bs : List Nat} {cs : List Chk} (h : St w sb pb bi bp len cap inc wait L bs cs) {k : Nat} {B : Array Value} {u : TypeId} (hk : w.heap[k]? = some (.cells B u (0, 0))) (hu : 50 ≠ u) : k ∉ bs := by
  intro hm
  obtain ⟨c, hc⟩ := h.objs.mem k hm
  exact ne_of hc hk hu rfl

/-- The blocks that a run of markLate may turn. -/
def own (sb pb : Nat) (bs : List Nat) : Nat → Prop := fun k => k = sb ∨ k = pb ∨ k ∈ bs

/-- A check is retired: its flag and the count are stored. -/
theorem St.retire {w : World} {sb pb bi bp len cap : Nat} {inc wait : Int} {L b : Nat} {bs1 bs2 : List Nat} {ms cs2 : List Chk} {c : Chk} (h : St w sb pb bi bp len cap inc wait L (bs1 ++ b :: bs2) (ms ++ c :: cs2)) (hl : bs1.length = ms.length) :
    St ((w.setCell ⟨b, 2, Option.none⟩ (.bool true)).setCell ⟨sb, 1, Option.none⟩ (.int .i64 (L + 1))) sb pb bi bp len cap inc wait (L + 1) (bs1 ++ b :: bs2) (ms ++ { c with l := true } :: cs2) := by
  obtain ⟨h1, h2⟩ := h.objs.split hl
  have hb := h2.1
  have nsb : b ≠ sb := ne_of hb h.slot (by decide)
  have nbi : b ≠ bi := ne_of hb h.hi (by decide)
  have nbp : b ≠ bp := ne_of hb h.hp (by decide)
  have nsi : sb ≠ bi := ne_of h.slot h.hi (by decide)
  have nsp : sb ≠ bp := ne_of h.slot h.hp (by decide)
  have hnd := h.nodup
  have hsb : sb ∉ bs1 ++ b :: bs2 := h.not_mem h.slot (by decide)
  have key : ∀ k, k ≠ b → k ≠ sb → ((w.setCell ⟨b, 2, Option.none⟩ (.bool true)).setCell ⟨sb, 1, Option.none⟩ (.int .i64 (L + 1))).heap[k]? = w.heap[k]? := fun k k1 k2 => by rw [block_set_ne _ _ k2, block_set_ne _ _ k1]
  have hnb1 : ∀ x ∈ bs1, x ≠ b := fun x hx e => by
    subst e
    exact (List.nodup_append.1 hnd).2.2 x hx x (by simp) rfl
  have hnb2 : ∀ x ∈ bs2, x ≠ b := fun x hx e => by
    subst e
    exact (List.nodup_cons.1 (List.nodup_append.1 hnd).2.1).1 hx
  refine ⟨(h1.congr fun x hx => key x (hnb1 x hx) (fun e => hsb (by subst e; simp [hx]))).append ⟨?_, h2.2.congr fun x hx => key x (hnb2 x hx) (fun e => hsb (by subst e; simp [hx]))⟩, hnd, ?_, by rw [key _ nbi.symm nsi.symm]; exact h.hi, by rw [key _ nbp.symm nsp.symm]; exact h.hp⟩
  · rw [block_set_ne _ _ nsb, block_set hb]
    rfl
  · have hs : (w.setCell ⟨b, 2, Option.none⟩ (.bool true)).heap[sb]? = some (slotObj pb len cap L wait) := by rw [block_set_ne _ _ nsb.symm]; exact h.slot
    rw [block_set hs]
    rfl

theorem retire_else {w : World} {b sb k L : Nat} (h1 : k ≠ b) (h2 : k ≠ sb) : ((w.setCell ⟨b, 2, Option.none⟩ (.bool true)).setCell ⟨sb, 1, Option.none⟩ (.int .i64 (L + 1))).heap[k]? = w.heap[k]? := by rw [block_set_ne _ _ h2, block_set_ne _ _ h1]

/-- A store into the array of pointers. -/
theorem St.store {w : World} {sb pb bi bp len cap : Nat} {inc wait : Int} {L : Nat} {bs : List Nat} {cs : List Chk} {A : Array Value} (h : St w sb pb bi bp len cap inc wait L bs cs) (hA : w.heap[pb]? = some (.cells A 35 (0, 0))) (o : Nat) (u : Value) :
    St (w.setCell ⟨pb, o, Option.none⟩ u) sb pb bi bp len cap inc wait L bs cs := by
  have hpb : pb ∉ bs := h.not_mem hA (by decide)
  have n1 : sb ≠ pb := ne_of h.slot hA (by decide)
  have n2 : bi ≠ pb := ne_of h.hi hA (by decide)
  have n3 : bp ≠ pb := ne_of h.hp hA (by decide)
  exact ⟨h.objs.congr fun x hx => block_set_ne _ _ (fun e => hpb (e ▸ hx)), h.nodup, by rw [block_set_ne _ _ n1]; exact h.slot, by rw [block_set_ne _ _ n2]; exact h.hi, by rw [block_set_ne _ _ n3]; exact h.hp⟩

/-- Many stores into one block. -/
theorem block_setCells {b : Nat} {t : TypeId} {f : Nat × Nat} : ∀ (vs : List Value) (o : Nat) (w : World) (A : Array Value), w.heap[b]? = some (.cells A t f) →
    ∃ A', (w.setCells b o vs).heap[b]? = some (.cells A' t f) ∧ A'.size = A.size ∧ ∀ k, k < o → A'[k]? = A[k]?
  | [], o, w, A, h => ⟨A, h, rfl, fun _ _ => rfl⟩
  | v :: r, o, w, A, h => by
    obtain ⟨A', h1, h2, h3⟩ := block_setCells r (o + 1) _ _ (block_set h o v)
    exact ⟨A', h1, by simpa using h2, fun k hk => by rw [h3 k (by omega), Array.getElem?_setIfInBounds_ne (by omega)]⟩
theorem setCells_ne {b k : Nat} (hne : k ≠ b) : ∀ (vs : List Value) (o : Nat) (w : World), (w.setCells b o vs).heap[k]? = w.heap[k]?
  | [], _, _ => rfl
  | v :: r, o, w => by rw [World.setCells, setCells_ne hne r, block_set_ne _ _ hne]
theorem Kept.setCells {S : Nat → Prop} {a : World} {b : Nat} (hp : S b) : ∀ (vs : List Value) (o : Nat) (w : World), Kept S a w → Kept S a (w.setCells b o vs)
  | [], _, _, h => h
  | v :: r, o, w, h => Kept.setCells hp r _ _ (h.setCell (Or.inl hp) v)
theorem St.setCells {sb pb bi bp len cap : Nat} {inc wait : Int} {L : Nat} {bs : List Nat} {cs : List Chk} : ∀ (vs : List Value) (o : Nat) (w : World) (A : Array Value), St w sb pb bi bp len cap inc wait L bs cs → w.heap[pb]? = some (.cells A 35 (0, 0)) →
    St (w.setCells pb o vs) sb pb bi bp len cap inc wait L bs cs
  | [], _, _, _, h, _ => h
  | v :: r, o, w, A, h, hA => St.setCells r _ _ _ (h.store hA o v) (block_set hA o v)

/-! ### nothing is retired -/
theorem none_N (inc : Int) (L : Nat) : ∀ (cs : List Chk), (∀ c ∈ cs, ckRet inc L c = false) → ckN inc L cs = 0
  | [], _ => rfl
  | c :: r, h => by rw [ckN_cons, if_neg (by simp [h c (by simp)])]; exact none_N inc L r fun x hx => h x (by simp [hx])
theorem none_mark (inc : Int) (L : Nat) : ∀ (cs : List Chk), (∀ c ∈ cs, ckRet inc L c = false) → ckMark inc L cs = cs
  | [], _ => rfl
  | c :: r, h => by rw [ckMark_cons, if_neg (by simp [h c (by simp)]), none_mark inc L r fun x hx => h x (by simp [hx])]
theorem none_keep {α : Type} (inc : Int) (L : Nat) : ∀ (cs : List Chk) (bs : List α), bs.length = cs.length → (∀ c ∈ cs, ckRet inc L c = false) → ckKeep inc L cs bs = bs
  | [], [], _, _ => rfl
  | [], b :: bs, h, _ => by simp at h
  | c :: r, [], h, _ => by simp at h
  | c :: r, b :: bs, hl, h => by rw [ckKeep_cons, if_neg (by simp [h c (by simp)]), none_keep inc L r bs (by simpa using hl) fun x hx => h x (by simp [hx])]

/-! ### one check more -/
theorem one_N (inc : Int) (L : Nat) (cs : List Chk) (c : Chk) : ckN inc L (cs ++ [c]) = ckN inc L cs + if ckRet inc (L + ckN inc L cs) c = true then 1 else 0 := by
  rw [ckN_append, ckN_cons]; simp [ckN]
theorem one_mark (inc : Int) (L : Nat) (cs : List Chk) (c : Chk) : ckMark inc L (cs ++ [c]) = ckMark inc L cs ++ [if ckRet inc (L + ckN inc L cs) c = true then { c with l := true } else c] := by
  rw [ckMark_append, ckMark_cons]; split <;> rfl
theorem one_keep {α : Type} (inc : Int) (L : Nat) (cs : List Chk) (c : Chk) (bs : List α) (b : α) (h : bs.length = cs.length) : ckKeep inc L (cs ++ [c]) (bs ++ [b]) = ckKeep inc L cs bs ++ if ckRet inc (L + ckN inc L cs) c = true then [] else [b] := by
  rw [ckKeep_append _ _ _ _ _ _ h, ckKeep_cons]; split <;> rfl

/-- DeleteFunc's second loop: j checks are done, i pointers kept. -/
structure Mid (w0 : World) (sb pb bi bp len cap : Nat) (inc wait : Int) (L : Nat) (bs : List Nat) (cs : List Chk) (i j : Nat) (cs1 cs2 : List Chk) (bs1 bs2 : List Nat) (A : Array Value) (wr : World) : Prop where
  hcs : cs = cs1 ++ cs2
  hbs : bs = bs1 ++ bs2
  hl : bs1.length = cs1.length
  hj : j = cs1.length
  hi : i = (ckKeep inc L cs1 bs1).length
  lt : i < j
  st : St wr sb pb bi bp len cap inc wait (L + ckN inc L cs1) bs (ckMark inc L cs1 ++ cs2)
  hA : wr.heap[pb]? = some (.cells A 35 (0, 0))
  size : A.size = cap
  row1 : RowA A 0 (ckKeep inc L cs1 bs1)
  row2 : RowA A j bs2
  kept : Kept (own sb pb bs) w0 wr

theorem Mid.drewN {w0 : World} {sb pb bi bp len cap : Nat} {inc wait : Int} {L : Nat} {bs : List Nat} {cs : List Chk} {i j : Nat} {cs1 cs2 : List Chk} {bs1 bs2 : List Nat} {A : Array Value} {wr : World}
    (h : Mid w0 sb pb bi bp len cap inc wait L bs cs i j cs1 cs2 bs1 bs2 A wr) (n : Nat) : Mid w0 sb pb bi bp len cap inc wait L bs cs i j cs1 cs2 bs1 bs2 A (wr.drewN n) :=
  ⟨h.hcs, h.hbs, h.hl, h.hj, h.hi, h.lt, h.st.drewN n, h.hA, h.size, h.row1, h.row2, h.kept.drewN n⟩

theorem Mid.ret {w0 : World} {sb pb bi bp len cap : Nat} {inc wait : Int} {L : Nat} {bs : List Nat} {cs : List Chk} {i j : Nat} {cs1 cs2 : List Chk} {bs1 bs2 : List Nat} {A : Array Value} {wr : World} {c : Chk} {b : Nat}
    (h : Mid w0 sb pb bi bp len cap inc wait L bs cs i j cs1 (c :: cs2) bs1 (b :: bs2) A wr) (hr : ckRet inc (L + ckN inc L cs1) c = true) :
    Mid w0 sb pb bi bp len cap inc wait L bs cs i (j + 1) (cs1 ++ [c]) cs2 (bs1 ++ [b]) bs2 A ((wr.setCell ⟨b, 2, Option.none⟩ (.bool true)).setCell ⟨sb, 1, Option.none⟩ (.int .i64 (((L + ckN inc L cs1 : Nat) : Int) + 1))) := by
  have st := h.st
  have hbs := h.hbs
  rw [hbs] at st
  have hmb : b ∈ bs := by rw [hbs]; simp
  have st' := st.retire (by rw [h.hl, ckMark_length])
  have hb := (st.objs.split (by rw [h.hl, ckMark_length])).2.1
  have npb : pb ≠ b := (ne_of hb h.hA (by decide)).symm
  have nps : pb ≠ sb := (ne_of h.st.slot h.hA (by decide)).symm
  refine ⟨by rw [h.hcs]; simp, by rw [hbs]; simp, by simp [h.hl], by simp [h.hj], ?_, by have := h.lt; omega, ?_, by rw [retire_else npb nps]; exact h.hA, h.size, ?_, h.row2.cons.2, ?_⟩
  · rw [one_keep _ _ _ _ _ _ h.hl, if_pos hr, List.append_nil]; exact h.hi
  · rw [one_N, if_pos hr, one_mark, if_pos hr, hbs, ← Nat.add_assoc]
    simpa using st'
  · rw [one_keep _ _ _ _ _ _ h.hl, if_pos hr, List.append_nil]; exact h.row1
  · exact (h.kept.setCell (Or.inl (Or.inr (Or.inr hmb))) _).setCell (Or.inl (Or.inl rfl)) _

theorem Mid.keep {w0 : World} {sb pb bi bp len cap : Nat} {inc wait : Int} {L : Nat} {bs : List Nat} {cs : List Chk} {i j : Nat} {cs1 cs2 : List Chk} {bs1 bs2 : List Nat} {A : Array Value} {wr : World} {c : Chk} {b : Nat}
    (h : Mid w0 sb pb bi bp len cap inc wait L bs cs i j cs1 (c :: cs2) bs1 (b :: bs2) A wr) (hr : ckRet inc (L + ckN inc L cs1) c = false) (hsz : j < cap) :
    Mid w0 sb pb bi bp len cap inc wait L bs cs (i + 1) (j + 1) (cs1 ++ [c]) cs2 (bs1 ++ [b]) bs2 (A.setIfInBounds i (ptr b)) (wr.setCell ⟨pb, i, Option.none⟩ (ptr b)) := by
  have hr' : ¬ ckRet inc (L + ckN inc L cs1) c = true := by simp [hr]
  have hlt := h.lt
  refine ⟨by rw [h.hcs]; simp, by rw [h.hbs]; simp, by simp [h.hl], by simp [h.hj], ?_, by omega, ?_, block_set h.hA _ _, by simp [h.size], ?_, ?_, ?_⟩
  · rw [one_keep _ _ _ _ _ _ h.hl, if_neg hr']; simp [← h.hi]
  · rw [one_N, if_neg hr', one_mark, if_neg hr', Nat.add_zero]
    have := h.st.store h.hA i (ptr b)
    simpa using this
  · rw [one_keep _ _ _ _ _ _ h.hl, if_neg hr']
    have := h.row1.snoc (b := b) (by rw [← h.hi, h.size]; omega)
    rw [Nat.zero_add, ← h.hi] at this
    exact this
  · exact h.row2.cons.2.set_before (by omega)
  · exact h.kept.setCell (Or.inl (Or.inr (Or.inl rfl))) _

end Go.Proofs.Qxb6625896a.Heap
