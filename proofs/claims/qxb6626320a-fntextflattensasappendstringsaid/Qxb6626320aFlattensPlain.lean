/-
  LAW 'FLATTENS': what the two loops of the law's head find.
-/
import Derived.Test.Qxb6626320aNewRec
namespace Go.Proofs.Qxb6626320a.Flattens
open Go.RowKit
open Go.Proofs.Qxb6626320a.Frame Go.Proofs.Qxb6626320a.Parts Go.Proofs.Qxb6626320a.Text Go.Proofs.Qxb6626320a.Recs Go.Proofs.Qxb6626320a.Flat Go.Proofs.Qxb6626320a.Plain
open Go.Proofs.Qxb6626320a.Script (strs tot tot_snoc tot_take)
set_option linter.unusedVariables false
set_option linter.unusedSimpArgs false

def ints (l : List Int) : List Value := l.map fun z => Value.int .i64 z

/-- The first i places and strings, laid side by side. -/
structure Pre (zs : List Int) (ss : List ByteArray) (i sm prev : Nat) (hp : List (Nat × ByteArray)) : Prop where
  len : hp.length = i
  places : atCells hp = (ints zs).take i
  strings : sCells hp = (strs ss).take i
  ok : OkFrom prev 0 hp
  sum : sizes hp = sm

theorem Pre.start (zs : List Int) (ss : List ByteArray) : Pre zs ss 0 0 0 [] := ⟨rfl, rfl, rfl, Nat.le_refl _, rfl⟩
theorem Pre.step {zs : List Int} {ss : List ByteArray} {i sm prev x : Nat} {hp : List (Nat × ByteArray)} {t : ByteArray} (h : Pre zs ss i sm prev hp) (hz : zs[i]? = some (x : Int)) (ht : ss[i]? = some t) (hx : prev ≤ x) :
    Pre zs ss (i + 1) (sm + t.size) x (hp ++ [(x, t)]) := by
  refine ⟨by simp [h.len], ?_, ?_, ok_snoc t (ok_mono hx h.ok), ?_⟩
  · have e : (ints zs)[i]? = some (.int .i64 (x : Int)) := by simp [ints, hz]
    rw [List.take_add_one, e, ← h.places]
    simp [atCells]
  · have e : (strs ss)[i]? = some (.string t) := by simp [strs, ht]
    rw [List.take_add_one, e, ← h.strings]
    simp [sCells]
  · rw [sizes_append, h.sum]
    simp [sizes]

theorem strs_inj : ∀ {a b : List ByteArray}, strs a = strs b → a = b
  | [], [], _ => rfl
  | [], _ :: _, h => by simp [strs] at h
  | _ :: _, [], h => by simp [strs] at h
  | x :: a, y :: b, h => by
    simp only [strs, List.map_cons, List.cons.injEq, Value.string.injEq] at h
    rw [h.1, strs_inj (a := a) (b := b) h.2]

theorem sizes_tot (hp : List (Nat × ByteArray)) : sizes hp ≤ tot (hp.map (·.2)) := by
  induction hp with
  | nil => exact Nat.le_refl _
  | cons p r ih =>
    simp only [sizes, tot, List.map_cons, List.sum_cons] at ih ⊢
    omega

theorem Pre.small {zs : List Int} {ss : List ByteArray} {i sm prev : Nat} {hp : List (Nat × ByteArray)} (h : Pre zs ss i sm prev hp) : sm ≤ tot ss := by
  have e : sCells hp = strs (hp.map (·.2)) := by simp [sCells, strs]
  have e2 : hp.map (·.2) = ss.take i := by
    apply strs_inj
    rw [← e, h.strings]
    simp [strs, List.map_take]
  have h1 := sizes_tot hp
  rw [e2, h.sum] at h1
  exact Nat.le_trans h1 (tot_take ss i)

theorem Pre.all {zs : List Int} {ss : List ByteArray} {sm prev : Nat} {hp : List (Nat × ByteArray)} (h : Pre zs ss ss.length sm prev hp) (hz : zs.length = ss.length) : atCells hp = ints zs ∧ sCells hp = strs ss := by
  refine ⟨?_, ?_⟩
  · rw [h.places, List.take_of_length_le (by simp [ints, hz])]
  · rw [h.strings, List.take_of_length_le (by simp [strs])]

theorem ownsRow_nilfact {w : World} {e : TypeId} {n cap : Nat} {ao : Option Addr} {xs : List Value} (h : w.ownsRow 0 e 1 (.slice ao n cap) n xs) : ao = Option.none → n = 0 := fun e => by
  subst e
  rcases h.2 with ⟨h0, h1⟩ | ⟨gg, cc, cur, h0, _⟩
  · exact h1
  · simp at h0

theorem own_at2 {w : World} {e : TypeId} {ao : Option Addr} {n cap : Nat} {xs : List Value} (h : w.ownsRow 0 e 1 (.slice ao n cap) n xs) : n ≤ cap ∧ cap ≤ maxLen ∧ At w ao xs ∧ (ao = Option.none → n = 0) := by
  obtain ⟨a', c', hv, h1, h2, h3, _⟩ := own_at h
  simp only [Value.slice.injEq, true_and] at hv
  obtain ⟨rfl, rfl⟩ := hv
  exact ⟨h1, h2, h3, ownsRow_nilfact h⟩

theorem below_trans {a b c : World} (h : Below a.heap.size a b) (k : Below b.heap.size b c) : Below a.heap.size a c := h.trans (k.mono h.size)

/-- What Text adds to the bytes, to the held strings, to their length. -/
def tB (s : ByteArray) : List UInt8 := if s.size < 4096 then frame s.data.toList else Lib.uvarint s.size
def tH (bl : List UInt8) (s : ByteArray) : List (Nat × ByteArray) := if s.size < 4096 then [] else [((bl ++ Lib.uvarint s.size).length, s)]
def tL (s : ByteArray) : Nat := if s.size < 4096 then 0 else s.size

theorem text_any (rb : Nat) (s : ByteArray) (vb vh : Value) (bl : List UInt8) (hs : List (Nat × ByteArray)) (hl : Nat) (w : World) (h : Rec w rb vb vh bl hs hl) (hsm : s.size ≤ 4194304) (hb : bl.length ≤ 1099511627776) (hh : hs.length ≤ 1099511627776) (hlm : hl ≤ 1099511627776) :
    Calls Try.prog 12 #[.pointer (some ⟨rb, 0, Option.none⟩), .string s] w fun e w' => e = .returned (.tuple #[]) ∧ ∃ vb' vh', Rec w' rb vb' vh' (bl ++ tB s) (hs ++ tH bl s) (hl + tL s) ∧ Kept (recS rb vb vh) w w' := by
  by_cases h1 : s.size < 4096
  · refine (text_short rb s vb vh bl hs hl w h h1 hb).mono ?_
    rintro e w' ⟨rfl, vb', r, k, _⟩
    exact ⟨rfl, vb', vh, by simpa [tB, tH, tL, h1] using r, k⟩
  · refine (text_long rb s vb vh bl hs hl w h (by omega) hsm hb hh hlm).mono ?_
    rintro e w' ⟨rfl, vb', vh', r, k, _, _⟩
    refine ⟨rfl, vb', vh', ?_, k⟩
    unfold tB tH tL
    rw [if_neg h1, if_neg h1, if_neg h1]
    exact r

theorem data_len (s : ByteArray) : s.data.toList.length = s.size := by simp

theorem frame_is (s : ByteArray) : frame s.data.toList = Lib.uvarint s.size ++ s.data.toList := by unfold frame; rw [data_len]

theorem tB_len (s : ByteArray) : (tB s).length = (Lib.uvarint s.size).length + (if s.size < 4096 then s.size else 0) := by
  unfold tB
  by_cases h1 : s.size < 4096
  · rw [if_pos h1, if_pos h1, frame_is, List.length_append, data_len]
  · rw [if_neg h1, if_neg h1]; rfl

theorem text_ok {bl : List UInt8} {hs : List (Nat × ByteArray)} (s : ByteArray) (h : OkFrom bl.length 0 hs) : OkFrom (bl ++ tB s).length 0 (hs ++ tH bl s) := by
  unfold tB tH
  by_cases h1 : s.size < 4096
  · rw [if_pos h1, if_pos h1, List.append_nil]
    exact ok_mono (by simp) h
  · rw [if_neg h1, if_neg h1]
    exact ok_snoc s (ok_mono (by simp) h)

theorem text_flat {bl : List UInt8} {hs : List (Nat × ByteArray)} (s : ByteArray) (h : OkFrom bl.length 0 hs) : flat (bl ++ tB s) (hs ++ tH bl s) = flat bl hs ++ frame s.data.toList := by
  unfold tB tH flat
  by_cases h1 : s.size < 4096
  · rw [if_pos h1, if_pos h1, List.append_nil]
    exact flatFrom_app bl _ hs 0 h
  · rw [if_neg h1, if_neg h1, flatFrom_hold _ s hs 0 (ok_mono (by simp) h), flatFrom_app bl _ hs 0 h, frame_is, List.append_assoc]

theorem tH_sizes (bl : List UInt8) (s : ByteArray) (hs : List (Nat × ByteArray)) : sizes (hs ++ tH bl s) ≤ sizes hs + s.size := by
  rw [sizes_append]
  unfold tH
  by_cases h1 : s.size < 4096
  · rw [if_pos h1]; simp [sizes]
  · rw [if_neg h1]; simp [sizes]

end Go.Proofs.Qxb6626320a.Flattens
