/-
  PLAIN: what markLate does to a list of checks; no Go text in sight.
-/
import Derived.Below
namespace Go.Proofs.Qxb6625896a.Plain
set_option linter.unusedVariables false
set_option linter.unusedSimpArgs false

/-- One check: its count of calls, whether it is of its own query, whether it is late. -/
structure Chk where
  a : Int
  q : Bool
  l : Bool

def dueN (inc a : Int) : Bool := decide (2 ≤ IntKind.u64.wrap (inc - a))
def ckDue (inc : Int) (c : Chk) : Bool := !c.q && dueN inc c.a

/-- Is the check retired at the count L of late ones? -/
def ckRet (inc : Int) (L : Nat) (c : Chk) : Bool := ckDue inc c && decide (L ≠ 15)

/-- How many are retired. -/
def ckN (inc : Int) : Nat → List Chk → Nat
  | _, [] => 0
  | L, c :: r => if ckRet inc L c then ckN inc (L + 1) r + 1 else ckN inc L r

/-- The checks with their flags behind the run. -/
def ckMark (inc : Int) : Nat → List Chk → List Chk
  | _, [] => []
  | L, c :: r => if ckRet inc L c then { c with l := true } :: ckMark inc (L + 1) r else c :: ckMark inc L r

/-- What is kept, of a list that runs beside the checks. -/
def ckKeep {α : Type} (inc : Int) : Nat → List Chk → List α → List α
  | L, c :: r, b :: bs => if ckRet inc L c then ckKeep inc (L + 1) r bs else b :: ckKeep inc L r bs
  | _, _, _ => []

theorem ckN_cons (inc : Int) (L : Nat) (c : Chk) (r : List Chk) : ckN inc L (c :: r) = if ckRet inc L c = true then ckN inc (L + 1) r + 1 else ckN inc L r := rfl
theorem ckMark_cons (inc : Int) (L : Nat) (c : Chk) (r : List Chk) : ckMark inc L (c :: r) = if ckRet inc L c = true then { c with l := true } :: ckMark inc (L + 1) r else c :: ckMark inc L r := rfl
theorem ckKeep_cons {α : Type} (inc : Int) (L : Nat) (c : Chk) (r : List Chk) (b : α) (bs : List α) : ckKeep inc L (c :: r) (b :: bs) = if ckRet inc L c = true then ckKeep inc (L + 1) r bs else b :: ckKeep inc L r bs := rfl

/-- How many are due. -/
def ckDues (inc : Int) (cs : List Chk) : Nat := cs.countP (ckDue inc)

theorem ckN_eq (inc : Int) : ∀ (cs : List Chk) (L : Nat), L ≤ 15 → ckN inc L cs = min (ckDues inc cs) (15 - L)
  | [], L, _ => by simp [ckN, ckDues]
  | c :: r, L, h => by
    rw [ckN_cons]
    by_cases hd : ckDue inc c = true
    · by_cases hL : L = 15
      · subst hL
        rw [if_neg (by simp [ckRet]), ckN_eq inc r 15 h]
        simp
      · rw [if_pos (by simp [ckRet, hd, hL]), ckN_eq inc r (L + 1) (by omega)]
        simp only [ckDues, List.countP_cons, hd, if_true]
        omega
    · rw [if_neg (by simp [ckRet, hd]), ckN_eq inc r L h]
      simp [ckDues, List.countP_cons, hd]

theorem ckN_le (inc : Int) : ∀ (cs : List Chk) (L : Nat), ckN inc L cs ≤ cs.length
  | [], _ => by simp [ckN]
  | c :: r, L => by
    rw [ckN_cons]
    have h1 := ckN_le inc r L
    have h2 := ckN_le inc r (L + 1)
    split <;> simp <;> omega

theorem ckMark_length (inc : Int) : ∀ (cs : List Chk) (L : Nat), (ckMark inc L cs).length = cs.length
  | [], _ => by simp [ckMark]
  | c :: r, L => by
    rw [ckMark_cons]
    have h1 := ckMark_length inc r L
    have h2 := ckMark_length inc r (L + 1)
    split <;> simp <;> omega

theorem ckKeep_length {α : Type} (inc : Int) : ∀ (cs : List Chk) (bs : List α) (L : Nat), bs.length = cs.length → (ckKeep inc L cs bs).length = cs.length - ckN inc L cs
  | [], bs, _, _ => by cases bs <;> simp [ckKeep, ckN]
  | c :: r, [], _, h => by simp at h
  | c :: r, b :: bs, L, h => by
    simp only [List.length_cons, Nat.add_right_cancel_iff] at h
    rw [ckKeep_cons, ckN_cons]
    have h1 := ckKeep_length inc r bs L h
    have h2 := ckKeep_length inc r bs (L + 1) h
    have h3 := ckN_le inc r L
    have h4 := ckN_le inc r (L + 1)
    split <;> simp <;> omega

/-- The run over two parts, one behind the other. -/
theorem ckN_append (inc : Int) : ∀ (cs ds : List Chk) (L : Nat), ckN inc L (cs ++ ds) = ckN inc L cs + ckN inc (L + ckN inc L cs) ds
  | [], ds, L => by simp [ckN]
  | c :: r, ds, L => by
    rw [List.cons_append, ckN_cons, ckN_cons]
    by_cases h : ckRet inc L c = true
    · rw [if_pos h, if_pos h, ckN_append inc r ds (L + 1), show L + (ckN inc (L + 1) r + 1) = L + 1 + ckN inc (L + 1) r by omega]
      omega
    · rw [if_neg h, if_neg h]
      exact ckN_append inc r ds L
theorem ckMark_append (inc : Int) : ∀ (cs ds : List Chk) (L : Nat), ckMark inc L (cs ++ ds) = ckMark inc L cs ++ ckMark inc (L + ckN inc L cs) ds
  | [], ds, L => by simp [ckMark, ckN]
  | c :: r, ds, L => by
    rw [List.cons_append, ckMark_cons, ckMark_cons, ckN_cons]
    by_cases h : ckRet inc L c = true
    · rw [if_pos h, if_pos h, if_pos h, ckMark_append inc r ds (L + 1), show L + (ckN inc (L + 1) r + 1) = L + 1 + ckN inc (L + 1) r by omega]
      rfl
    · rw [if_neg h, if_neg h, if_neg h, ckMark_append inc r ds L]
      rfl
theorem ckKeep_append {α : Type} (inc : Int) : ∀ (cs ds : List Chk) (bs es : List α) (L : Nat), bs.length = cs.length → ckKeep inc L (cs ++ ds) (bs ++ es) = ckKeep inc L cs bs ++ ckKeep inc (L + ckN inc L cs) ds es
  | [], ds, bs, es, L, h => by
    obtain rfl : bs = [] := List.length_eq_zero_iff.1 (by simpa using h)
    rfl
  | c :: r, ds, [], es, L, h => by simp at h
  | c :: r, ds, b :: bs, es, L, h => by
    simp only [List.length_cons, Nat.add_right_cancel_iff] at h
    rw [List.cons_append, List.cons_append, ckKeep_cons, ckKeep_cons, ckN_cons]
    by_cases hr : ckRet inc L c = true
    · rw [if_pos hr, if_pos hr, if_pos hr, ckKeep_append inc r ds bs es (L + 1) h, show L + (ckN inc (L + 1) r + 1) = L + 1 + ckN inc (L + 1) r by omega]
    · rw [if_neg hr, if_neg hr, if_neg hr, ckKeep_append inc r ds bs es L h]
      rfl

end Go.Proofs.Qxb6625896a.Plain
