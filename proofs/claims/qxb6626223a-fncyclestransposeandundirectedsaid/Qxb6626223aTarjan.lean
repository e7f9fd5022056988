/-
  THE PLAIN LAW of the search by low and index (no Go in sight): what one visit does, step by step.
-/
namespace Go.Proofs.Qxb6626223a.Tarjan

set_option linter.unusedSectionVars false
set_option linter.unusedVariables false
set_option linter.unusedSimpArgs false

variable {α : Type} [DecidableEq α]

inductive Reach (succ : α → List α) : α → α → Prop
  | refl (a : α) : Reach succ a a
  | step {a b c : α} : b ∈ succ a → Reach succ b c → Reach succ a c

theorem Reach.trans {succ : α → List α} {a b c : α} (h : Reach succ a b) (k : Reach succ b c) : Reach succ a c := by
  induction h with
  | refl a => exact k
  | step e _ ih => exact .step e (ih k)
theorem Reach.edge {succ : α → List α} {a b : α} (h : b ∈ succ a) : Reach succ a b := .step h (.refl b)

def upd {β : Type} (f : α → β) (a : α) (v : β) : α → β := fun x => if x = a then v else f x
theorem upd_same {β : Type} (f : α → β) (a : α) (v : β) : upd f a v a = v := by simp [upd]
theorem upd_other {β : Type} (f : α → β) {a x : α} (v : β) (h : x ≠ a) : upd f a v x = f x := by simp [upd, h]

structure St (α : Type) where
  idx : α → Option Nat
  low : α → Nat
  stack : List α
  comps : List (List α)
  cnt : Nat

def St.push (S : St α) (a : α) : St α := ⟨upd S.idx a (some S.cnt), upd S.low a S.cnt, S.stack ++ [a], S.comps, S.cnt + 1⟩
def St.setLow (S : St α) (a : α) (n : Nat) : St α := { S with low := upd S.low a n }
def St.cut (S : St α) (st c : List α) : St α := { S with stack := st, comps := S.comps ++ [c] }

/-- What holds of the state while the agents of G are being visited. -/
structure Inv (succ : α → List α) (S : St α) (G : α → Prop) : Prop where
  lt : ∀ v n, S.idx v = some n → n < S.cnt
  inj : ∀ u v n, S.idx u = some n → S.idx v = some n → u = v
  nodup : S.stack.Nodup
  vis : ∀ v ∈ S.stack, ∃ n, S.idx v = some n
  gray : ∀ g, G g → g ∈ S.stack
  black : ∀ v, S.idx v ≠ none → ¬ G v → ∀ b ∈ succ v, S.idx b ≠ none
  closed : ∀ v, S.idx v ≠ none → v ∉ S.stack → ∀ b ∈ succ v, S.idx b ≠ none ∧ b ∉ S.stack
  up : ∀ x ∈ S.stack, ∀ y ∈ S.stack, ∀ m n, S.idx x = some m → S.idx y = some n → m ≤ n → Reach succ x y
  down : ∀ y ∈ S.stack, ∃ g, G g ∧ Reach succ y g ∧ ∃ m n, S.idx g = some m ∧ S.idx y = some n ∧ m ≤ n
  comp : ∀ c ∈ S.comps, c ≠ [] ∧ c.Nodup ∧ ∀ a ∈ c, ∀ z, z ∈ c ↔ (Reach succ a z ∧ Reach succ z a)
  cover : ∀ v, (S.idx v ≠ none ∧ v ∉ S.stack) ↔ ∃ c ∈ S.comps, v ∈ c
  disj : S.comps.Pairwise fun c d => ∀ v ∈ c, v ∉ d

structure Ext (S S' : St α) : Prop where
  idx : ∀ v n, S.idx v = some n → S'.idx v = some n
  new : ∀ v n, S.idx v = none → S'.idx v = some n → S.cnt ≤ n
  cnt : S.cnt ≤ S'.cnt
  low : ∀ v, S.idx v ≠ none → S'.low v = S.low v

theorem Ext.refl (S : St α) : Ext S S := ⟨fun _ _ h => h, fun v n h k => (by rw [h] at k; cases k), Nat.le_refl _, fun _ _ => rfl⟩
theorem Ext.keeps {S S' : St α} (h : Ext S S') {v : α} (hv : S.idx v ≠ none) : S'.idx v ≠ none := by
  cases e : S.idx v with
  | none => exact absurd e hv
  | some n => rw [h.idx v n e]; simp
theorem Ext.trans {S T U : St α} (h : Ext S T) (k : Ext T U) : Ext S U := by
  refine ⟨fun v n e => k.idx v n (h.idx v n e), fun v n e f => ?_, Nat.le_trans h.cnt k.cnt, fun v e => (k.low v (h.keeps e)).trans (h.low v e)⟩
  cases g : T.idx v with
  | none => exact Nat.le_trans h.cnt (k.new v n g f)
  | some m =>
    have := k.idx v m g
    rw [f] at this
    cases this
    exact h.new v n e g

/-- Behind a visit of a. -/
structure Post (succ : α → List α) (G : α → Prop) (S : St α) (a : α) (S' : St α) : Prop where
  inv : Inv succ S' G
  ext : Ext S S'
  vis : S'.idx a ≠ none
  stk : ∃ new, S'.stack = S.stack ++ new ∧ ∀ x ∈ new, S.idx x = none ∧ ∀ y ∈ S.stack, y ∈ succ x → ∀ n, S.idx y = some n → S'.low a ≤ n
  low : (a ∉ S'.stack ∧ S.cnt ≤ S'.low a) ∨ ∃ y ∈ S'.stack, S'.idx y = some (S'.low a) ∧ Reach succ a y

/-- Inside the visit of a, the successors of 'done' behind it. -/
structure Loop (succ : α → List α) (G : α → Prop) (S : St α) (a : α) (done : List α) (T : St α) : Prop where
  base : Inv succ S G
  white : S.idx a = none
  inv : Inv succ T (fun g => g = a ∨ G g)
  ext : Ext S T
  ida : T.idx a = some S.cnt
  lowa : T.low a ≤ S.cnt
  low : ∃ y ∈ T.stack, T.idx y = some (T.low a) ∧ Reach succ a y
  stk : ∃ new, T.stack = S.stack ++ a :: new ∧ ∀ x ∈ new, S.idx x = none ∧ ∀ y ∈ S.stack, y ∈ succ x → ∀ n, S.idx y = some n → T.low a ≤ n
  past : ∀ b ∈ done, T.idx b ≠ none ∧ (b ∈ S.stack → ∀ n, S.idx b = some n → T.low a ≤ n)

section
variable {succ : α → List α} {G : α → Prop} {S T : St α} {a : α} {done : List α}

theorem Inv.white_off {S : St α} {G : α → Prop} (h : Inv succ S G) {a : α} (ha : S.idx a = none) : a ∉ S.stack := fun hm => by
  obtain ⟨n, hn⟩ := h.vis a hm
  rw [ha] at hn
  cases hn

/-- The visit begins. -/
theorem loop_start (h : Inv succ S G) (ha : S.idx a = none) (hg : ∀ g, G g → Reach succ g a) : Loop succ G S a [] (S.push a) := by
  have hoff := h.white_off ha
  have other : ∀ v, S.idx v ≠ none → v ≠ a := fun v hv e => hv (by rw [e]; exact ha)
  have old : ∀ v n, S.idx v = some n → (S.push a).idx v = some n := fun v n e => by
    show upd _ _ _ _ = _
    rw [upd_other _ _ (other v (by rw [e]; simp))]; exact e
  have same : (S.push a).idx a = some S.cnt := upd_same _ _ _
  have back : ∀ v n, (S.push a).idx v = some n → (v = a ∧ n = S.cnt) ∨ (v ≠ a ∧ S.idx v = some n) := fun v n e => by
    by_cases hv : v = a
    · subst hv; rw [same] at e; cases e; exact .inl ⟨rfl, rfl⟩
    · exact .inr ⟨hv, by rw [← e]; exact (upd_other _ _ hv).symm⟩
  have some_of : ∀ v, (S.push a).idx v ≠ none → v = a ∨ S.idx v ≠ none := fun v hv => by
    by_cases e : v = a
    · exact .inl e
    · refine .inr fun hn => hv ?_
      show upd _ _ _ _ = _
      rw [upd_other _ _ e]; exact hn
  have keeps : ∀ v, S.idx v ≠ none → (S.push a).idx v ≠ none := fun v hv => by
    cases e : S.idx v with
    | none => exact absurd e hv
    | some n => rw [old v n e]; simp
  refine ⟨h, ha, ⟨?_, ?_, ?_, ?_, ?_, ?_, ?_, ?_, ?_, h.comp, ?_, h.disj⟩, ⟨old, ?_, Nat.le_succ _, ?_⟩, same, ?_, ⟨a, by simp [St.push], ?_, .refl a⟩, ⟨[], rfl, fun x hx => by simp at hx⟩, fun b hb => by simp at hb⟩
  · intro v n e
    show n < S.cnt + 1
    rcases back v n e with ⟨_, rfl⟩ | ⟨_, e⟩
    · omega
    · have := h.lt v n e; omega
  · intro u v n eu ev
    rcases back u n eu with ⟨u1, u2⟩ | ⟨_, eu'⟩
    · rcases back v n ev with ⟨v1, v2⟩ | ⟨_, ev'⟩
      · rw [u1, v1]
      · have := h.lt v _ ev'; omega
    · rcases back v n ev with ⟨v1, v2⟩ | ⟨_, ev'⟩
      · have := h.lt u _ eu'; omega
      · exact h.inj u v n eu' ev'
  · show (S.stack ++ [a]).Nodup
    rw [List.nodup_append]
    refine ⟨h.nodup, by simp, fun x hx y hy => ?_⟩
    simp at hy; subst hy
    intro e; subst e; exact hoff hx
  · intro v hv
    rcases List.mem_append.1 hv with hv | hv
    · obtain ⟨n, e⟩ := h.vis v hv; exact ⟨n, old v n e⟩
    · simp at hv; subst hv; exact ⟨_, same⟩
  · rintro g (rfl | hgg)
    · exact List.mem_append.2 (.inr (by simp))
    · exact List.mem_append.2 (.inl (h.gray g hgg))
  · intro v hv hng b hb
    rcases some_of v hv with rfl | hv
    · exact absurd (.inl rfl) hng
    · exact keeps b (h.black v hv (fun hgv => hng (.inr hgv)) b hb)
  · intro v hv hns b hb
    rcases some_of v hv with rfl | hv
    · exact absurd (List.mem_append.2 (.inr (by simp))) hns
    · obtain ⟨h1, h2⟩ := h.closed v hv (fun hm => hns (List.mem_append.2 (.inl hm))) b hb
      refine ⟨keeps b h1, fun hm => ?_⟩
      rcases List.mem_append.1 hm with hm | hm
      · exact h2 hm
      · simp at hm; exact other b h1 hm
  · intro x hx y hy m n ex ey hmn
    have toA : ∀ x ∈ S.stack, Reach succ x a := fun x hx => by
      obtain ⟨g, g1, g2, _⟩ := h.down x hx
      exact g2.trans (hg g g1)
    rcases List.mem_append.1 hx with hx' | hx'
    · rcases List.mem_append.1 hy with hy' | hy'
      · obtain ⟨m', em⟩ := h.vis x hx'
        obtain ⟨n', en⟩ := h.vis y hy'
        rw [old x m' em] at ex; cases ex
        rw [old y n' en] at ey; cases ey
        exact h.up x hx' y hy' _ _ em en hmn
      · rw [List.mem_singleton.1 hy']; exact toA x hx'
    · have hxa := List.mem_singleton.1 hx'
      rcases List.mem_append.1 hy with hy' | hy'
      · obtain ⟨n', en⟩ := h.vis y hy'
        rw [old y n' en] at ey; cases ey
        rw [hxa, same] at ex; cases ex
        have := h.lt y _ en
        omega
      · rw [hxa, List.mem_singleton.1 hy']; exact .refl _
  · intro y hy
    rcases List.mem_append.1 hy with hy | hy
    · obtain ⟨g, g1, g2, m, n, e1, e2, e3⟩ := h.down y hy
      exact ⟨g, .inr g1, g2, m, n, old g m e1, old y n e2, e3⟩
    · simp at hy; subst hy
      exact ⟨y, .inl rfl, .refl _, _, _, same, same, Nat.le_refl _⟩
  · intro v
    rw [show (S.push a).comps = S.comps from rfl, ← h.cover v]
    constructor
    · rintro ⟨h1, h2⟩
      rcases some_of v h1 with rfl | h1
      · exact absurd (List.mem_append.2 (.inr (by simp))) h2
      · exact ⟨h1, fun hm => h2 (List.mem_append.2 (.inl hm))⟩
    · rintro ⟨h1, h2⟩
      refine ⟨keeps v h1, fun hm => ?_⟩
      rcases List.mem_append.1 hm with hm | hm
      · exact h2 hm
      · simp at hm; exact other v h1 hm
  · intro v n e f
    rcases back v n f with ⟨_, rfl⟩ | ⟨_, f⟩
    · exact Nat.le_refl _
    · rw [e] at f; cases f
  · intro v hv
    exact upd_other _ _ (other v hv)
  · show upd _ _ _ _ ≤ _
    rw [upd_same]
    exact Nat.le_refl _
  · show (S.push a).idx a = some (upd S.low a S.cnt a)
    rw [same, upd_same]

theorem Inv.setLow {a : α} {n : Nat} (h : Inv succ S G) : Inv succ (S.setLow a n) G :=
  ⟨h.lt, h.inj, h.nodup, h.vis, h.gray, h.black, h.closed, h.up, h.down, h.comp, h.cover, h.disj⟩

theorem Loop.aOn (L : Loop succ G S a done T) : a ∈ T.stack := by
  obtain ⟨new, e, _⟩ := L.stk
  rw [e]; simp
theorem Loop.old (L : Loop succ G S a done T) {y : α} (h : y ∈ S.stack) : y ∈ T.stack := by
  obtain ⟨new, e, _⟩ := L.stk
  rw [e]; simp [h]

/-- a's low is turned down to n, which some agent on the stack bears that a reaches, or which it was. -/
theorem Loop.lower (L : Loop succ G S a done T) {b : α} {n : Nat} (hn : n ≤ T.low a) (hy : ∃ y ∈ T.stack, T.idx y = some n ∧ Reach succ a y)
    (hb : T.idx b ≠ none) (hbs : b ∈ S.stack → ∀ m, S.idx b = some m → n ≤ m) : Loop succ G S a (done ++ [b]) (T.setLow a n) := by
  have la : (T.setLow a n).low a = n := upd_same _ _ _
  refine ⟨L.base, L.white, L.inv.setLow, ⟨L.ext.idx, L.ext.new, L.ext.cnt, fun v hv => ?_⟩, L.ida, ?_, ?_, ?_, ?_⟩
  · rw [← L.ext.low v hv]
    exact upd_other _ _ fun e => hv (by rw [e]; exact L.white)
  · rw [la]; exact Nat.le_trans hn L.lowa
  · rw [la]; exact hy
  · obtain ⟨new, e, hnew⟩ := L.stk
    refine ⟨new, e, fun x hx => ⟨(hnew x hx).1, fun y hy' hyx m hm => ?_⟩⟩
    rw [la]; exact Nat.le_trans hn ((hnew x hx).2 y hy' hyx m hm)
  · intro c hc
    rw [la]
    rcases List.mem_append.1 hc with hc | hc
    · exact ⟨(L.past c hc).1, fun h m hm => Nat.le_trans hn ((L.past c hc).2 h m hm)⟩
    · rw [List.mem_singleton.1 hc]
      exact ⟨hb, hbs⟩

theorem min_cases (m n : Nat) : min m n = m ∨ (min m n = n ∧ n ≤ m) := by omega

/-- The next successor is on the stack. -/
theorem Loop.on (L : Loop succ G S a done T) {b : α} {n : Nat} (he : b ∈ succ a) (hb : b ∈ T.stack) (hn : T.idx b = some n) : Loop succ G S a (done ++ [b]) (T.setLow a (min (T.low a) n)) := by
  refine L.lower (Nat.min_le_left _ _) ?_ (by rw [hn]; simp) ?_
  · rcases min_cases (T.low a) n with e | ⟨e, _⟩
    · rw [e]; exact L.low
    · rw [e]; exact ⟨b, hb, hn, .edge he⟩
  · intro _ m hm
    have := L.ext.idx b m hm
    rw [hn] at this
    cases this
    exact Nat.min_le_right _ _

/-- The next successor is done with. -/
theorem Loop.off (L : Loop succ G S a done T) {b : α} (hb : b ∉ T.stack) (hn : T.idx b ≠ none) : Loop succ G S a (done ++ [b]) T := by
  refine ⟨L.base, L.white, L.inv, L.ext, L.ida, L.lowa, L.low, L.stk, fun c hc => ?_⟩
  rcases List.mem_append.1 hc with hc | hc
  · exact L.past c hc
  · rw [List.mem_singleton.1 hc]
    exact ⟨hn, fun h => absurd (L.old h) hb⟩

/-- The next successor was new, and has been visited. -/
theorem Loop.visited (L : Loop succ G S a done T) {b : α} {T' : St α} (he : b ∈ succ a) (hb : T.idx b = none) (P : Post succ (fun g => g = a ∨ G g) T b T') : Loop succ G S a (done ++ [b]) (T'.setLow a (min (T'.low a) (T'.low b))) := by
  have la : T'.low a = T.low a := P.ext.low a (by rw [L.ida]; simp)
  obtain ⟨newb, eb, hnb⟩ := P.stk
  have up : ∀ y, y ∈ T.stack → y ∈ T'.stack := fun y hy => by rw [eb]; simp [hy]
  have ext' := L.ext.trans P.ext
  obtain ⟨n, hn⟩ : ∃ n, min (T'.low a) (T'.low b) = n := ⟨_, rfl⟩
  have na : n ≤ T.low a := by omega
  have nb : n ≤ T'.low b := by omega
  rw [hn]
  have lb : (T'.setLow a n).low a = n := upd_same _ _ _
  refine ⟨L.base, L.white, P.inv.setLow, ⟨ext'.idx, ext'.new, ext'.cnt, fun v hv => ?_⟩, P.ext.idx a _ L.ida, ?_, ?_, ?_, ?_⟩
  · rw [← ext'.low v hv]
    exact upd_other _ _ fun e => hv (by rw [e]; exact L.white)
  · rw [lb]; exact Nat.le_trans na L.lowa
  · rw [lb]
    have keep : n = T.low a → ∃ y, y ∈ T'.stack ∧ T'.idx y = some n ∧ Reach succ a y := fun e => by
      obtain ⟨y, h1, h2, h3⟩ := L.low
      exact ⟨y, up y h1, by rw [e]; exact P.ext.idx y _ h2, h3⟩
    rcases P.low with ⟨_, h2⟩ | ⟨y, h1, h2, h3⟩
    · refine keep ?_
      have := L.inv.lt a _ L.ida
      have := L.lowa
      omega
    · by_cases e : n = T.low a
      · exact keep e
      · have : n = T'.low b := by omega
        exact ⟨y, h1, by rw [this]; exact h2, .step he h3⟩
  · obtain ⟨new, e, hnew⟩ := L.stk
    refine ⟨new ++ newb, by show T'.stack = _; rw [eb, e]; simp, fun x hx => ?_⟩
    rw [lb]
    rcases List.mem_append.1 hx with hx | hx
    · exact ⟨(hnew x hx).1, fun y hy hyx m hm => Nat.le_trans na ((hnew x hx).2 y hy hyx m hm)⟩
    · refine ⟨?_, fun y hy hyx m hm => Nat.le_trans nb ((hnb x hx).2 y (L.old hy) hyx m (L.ext.idx y m hm))⟩
      cases e' : S.idx x with
      | none => rfl
      | some m =>
        have := L.ext.idx x m e'
        rw [(hnb x hx).1] at this
        cases this
  · intro c hc
    rw [lb]
    rcases List.mem_append.1 hc with hc | hc
    · exact ⟨P.ext.keeps (L.past c hc).1, fun h m hm => Nat.le_trans na ((L.past c hc).2 h m hm)⟩
    · rw [List.mem_singleton.1 hc]
      refine ⟨P.vis, fun h m hm => ?_⟩
      have := L.ext.idx b m hm
      rw [hb] at this
      cases this

/-- a is not the first of its group: the visit ends with a on the stack. -/
theorem Loop.stays (L : Loop succ G S a (succ a) T) (hne : T.low a ≠ S.cnt) : Post succ G S a T := by
  have hlt : T.low a < S.cnt := by have := L.lowa; omega
  refine ⟨⟨L.inv.lt, L.inv.inj, L.inv.nodup, L.inv.vis, fun g hg => L.inv.gray g (.inr hg), ?_, L.inv.closed, L.inv.up, ?_, L.inv.comp, L.inv.cover, L.inv.disj⟩, L.ext, by rw [L.ida]; simp, ?_, .inr L.low⟩
  · intro v hv hng b hb
    by_cases e : v = a
    · subst e; exact (L.past b hb).1
    · exact L.inv.black v hv (fun h => h.elim e hng) b hb
  · intro y hy
    obtain ⟨g, hg, h1, m, n, e1, e2, e3⟩ := L.inv.down y hy
    rcases hg with rfl | hg
    · obtain ⟨z, z1, z2, z3⟩ := L.low
      obtain ⟨g', hg', h1', m', n', e1', e2', e3'⟩ := L.inv.down z z1
      rw [z2] at e2'; cases e2'
      rw [L.ida] at e1; cases e1
      rcases hg' with rfl | hg'
      · rw [L.ida] at e1'; cases e1'; omega
      · exact ⟨g', hg', h1.trans (z3.trans h1'), m', n, e1', e2, by omega⟩
    · exact ⟨g, hg, h1, m, n, e1, e2, e3⟩
  · obtain ⟨new, e, hnew⟩ := L.stk
    refine ⟨a :: new, e, fun x hx => ?_⟩
    rcases List.mem_cons.1 hx with rfl | hx
    · exact ⟨L.white, fun y hy hyx m hm => (L.past y hyx).2 hy m hm⟩
    · exact hnew x hx

/-- Whatever is reached from what is done with, is done with. -/
theorem Inv.done_reach (h : Inv succ S G) {u v : α} (hr : Reach succ u v) (h1 : S.idx u ≠ none) (h2 : u ∉ S.stack) : v ∉ S.stack := by
  induction hr with
  | refl => exact h2
  | step e _ ih =>
    obtain ⟨k1, k2⟩ := h.closed _ h1 h2 _ e
    exact ih k1 k2

/-- a is the first of its group, which the stack holds from it up. -/
theorem Loop.pops (L : Loop succ G S a (succ a) T) (heq : T.low a = S.cnt) {new : List α} (hst : T.stack = S.stack ++ a :: new) : Post succ G S a (T.cut S.stack (a :: new)) := by
  obtain ⟨new', e', hnew⟩ := L.stk
  have : new' = new := by
    rw [hst] at e'
    have := List.append_cancel_left e'
    simpa using this.symm
  subst this
  clear e'
  have nd := L.inv.nodup
  rw [hst, List.nodup_append] at nd
  obtain ⟨nd1, nd2, nd3⟩ := nd
  have apart : ∀ x, x ∈ a :: new' → x ∉ S.stack := fun x hx hs => nd3 x hs x hx rfl
  have part : ∀ x, x ∈ T.stack → x ∉ S.stack → x ∈ a :: new' := fun x hx hs => by
    rw [hst] at hx
    rcases List.mem_append.1 hx with hx | hx
    · exact absurd hx hs
    · exact hx
  have inT : ∀ x, x ∈ a :: new' → x ∈ T.stack := fun x hx => by rw [hst]; exact List.mem_append.2 (.inr hx)
  have inS : ∀ x, x ∈ S.stack → x ∈ T.stack := fun x hx => by rw [hst]; exact List.mem_append.2 (.inl hx)
  have blk : ∀ v, T.idx v ≠ none → ¬ G v → ∀ b ∈ succ v, T.idx b ≠ none := fun v hv hng b hb => by
    by_cases e : v = a
    · subst e; exact (L.past b hb).1
    · exact L.inv.black v hv (fun h => h.elim e hng) b hb
  have visT : ∀ x, x ∈ T.stack → T.idx x ≠ none := fun x hx => by obtain ⟨n, e⟩ := L.inv.vis x hx; rw [e]; simp
  have notG : ∀ x, x ∈ a :: new' → ¬ G x := fun x hx hg => apart x hx (L.base.gray x hg)
  have away : ∀ x, x ∈ a :: new' → ∀ b ∈ succ x, b ∉ S.stack := fun x hx b hb hs => by
    obtain ⟨n, hn⟩ := L.base.vis b hs
    have h1 := L.base.lt b n hn
    have h2 : T.low a ≤ n := by
      rcases List.mem_cons.1 hx with rfl | hx
      · exact (L.past b hb).2 hs n hn
      · exact (hnew x hx).2 b hs hb n hn
    omega
  have fromA : ∀ y, y ∈ a :: new' → Reach succ a y := fun y hy => by
    rcases List.mem_cons.1 hy with rfl | hy'
    · exact .refl _
    · obtain ⟨n, hn⟩ := L.inv.vis y (inT y hy)
      exact L.inv.up a L.aOn y (inT y hy) _ _ L.ida hn (L.ext.new y n (hnew y hy').1 hn)
  have toA : ∀ y, y ∈ a :: new' → Reach succ y a := fun y hy => by
    obtain ⟨g, hg, h1, m, n, e1, e2, e3⟩ := L.inv.down y (inT y hy)
    rcases hg with rfl | hg
    · exact h1
    · obtain ⟨k, hk⟩ := L.base.vis g (L.base.gray g hg)
      have hk' := L.ext.idx g k hk
      exact h1.trans (L.inv.up g (inS g (L.base.gray g hg)) a L.aOn _ _ hk' L.ida (Nat.le_of_lt (L.base.lt g k hk)))
  have stay : ∀ u v, Reach succ u v → u ∈ a :: new' → Reach succ v a → v ∈ a :: new' := fun u v hr => by
    induction hr with
    | refl => exact fun h _ => h
    | step e hr ih =>
      intro hu hv
      refine ih ?_ hv
      rename_i u b v
      have hb1 := blk u (visT u (inT u hu)) (notG u hu) b e
      have hb2 := away u hu b e
      refine part b ?_ hb2
      refine Classical.byContradiction fun hn => ?_
      exact L.inv.done_reach (hr.trans hv) hb1 hn L.aOn
  refine ⟨⟨L.inv.lt, L.inv.inj, L.base.nodup, fun v hv => L.inv.vis v (inS v hv), L.base.gray, blk, ?_, fun x hx y hy => L.inv.up x (inS x hx) y (inS y hy), ?_, ?_, ?_, ?_⟩, ⟨L.ext.idx, L.ext.new, L.ext.cnt, L.ext.low⟩, ?_, ⟨[], by simp [St.cut], fun x hx => by simp at hx⟩, .inl ⟨apart a (by simp), by rw [show (T.cut S.stack (a :: new')).low = T.low from rfl]; omega⟩⟩
  · intro v hv hs b hb
    by_cases ht : v ∈ T.stack
    · exact ⟨blk v hv (notG v (part v ht hs)) b hb, away v (part v ht hs) b hb⟩
    · obtain ⟨h1, h2⟩ := L.inv.closed v hv ht b hb
      exact ⟨h1, fun h => h2 (inS b h)⟩
  · intro y hy
    obtain ⟨g, hg, h1, m, n, e1, e2, e3⟩ := L.inv.down y (inS y hy)
    rcases hg with rfl | hg
    · obtain ⟨k, hk⟩ := L.base.vis y hy
      have := L.base.lt y k hk
      have e4 := L.ext.idx y k hk
      rw [e2] at e4; cases e4
      rw [L.ida] at e1; cases e1
      omega
    · exact ⟨g, hg, h1, m, n, e1, e2, e3⟩
  · intro c hc
    rcases List.mem_append.1 hc with hc | hc
    · exact L.inv.comp c hc
    · rw [List.mem_singleton.1 hc]
      refine ⟨by simp, nd2, fun x hx z => ⟨fun hz => ⟨(toA x hx).trans (fromA z hz), (toA z hz).trans (fromA x hx)⟩, fun ⟨h1, h2⟩ => stay x z h1 hx (h2.trans (toA x hx))⟩⟩
  · intro v
    constructor
    · rintro ⟨h1, h2⟩
      by_cases ht : v ∈ T.stack
      · exact ⟨a :: new', List.mem_append.2 (.inr (by simp)), part v ht h2⟩
      · obtain ⟨c, hc, hv⟩ := (L.inv.cover v).1 ⟨h1, ht⟩
        exact ⟨c, List.mem_append.2 (.inl hc), hv⟩
    · rintro ⟨c, hc, hv⟩
      rcases List.mem_append.1 hc with hc | hc
      · obtain ⟨h1, h2⟩ := (L.inv.cover v).2 ⟨c, hc, hv⟩
        exact ⟨h1, fun h => h2 (inS v h)⟩
      · rw [List.mem_singleton.1 hc] at hv
        exact ⟨visT v (inT v hv), apart v hv⟩
  · show (T.comps ++ [a :: new']).Pairwise _
    rw [List.pairwise_append]
    refine ⟨L.inv.disj, by simp, fun c hc d hd v hv hv' => ?_⟩
    rw [List.mem_singleton.1 hd] at hv'
    exact ((L.inv.cover v).2 ⟨c, hc, hv⟩).2 (inT v hv')
  · show T.idx a ≠ none
    rw [L.ida]; simp

end
end Go.Proofs.Qxb6626223a.Tarjan
