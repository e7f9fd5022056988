/-
  PLAIN: what isBlockHeader answers, over lists of bytes; no Go in sight.
-/
namespace Go.Proofs.Qxb6625858a.Plain
set_option linter.unusedSimpArgs false

def indN (n : Int) : Bool := decide (49 ≤ n) && decide (n ≤ 57)
def choN (n : Int) : Bool := decide (n = 43) || decide (n = 45)
def ind (b : UInt8) : Bool := indN (b.toNat : Int)
def cho (b : UInt8) : Bool := choN (b.toNat : Int)

/-- The loop of isBlockHeader, from the counts d and c on. -/
def hdrTo : Nat → Nat → List UInt8 → Bool
  | d, c, [] => decide (d ≤ 1) && decide (c ≤ 1)
  | d, c, b :: l => if ind b then hdrTo (d + 1) c l else if cho b then hdrTo d (c + 1) l else false

def hdr (l : List UInt8) : Bool := hdrTo 0 0 l
def hasInd (l : List UInt8) : Bool := l.any ind
def hasCho (l : List UInt8) : Bool := l.any cho

theorem not_both (b : UInt8) (h : ind b = true) : cho b = false := by
  simp only [ind, indN, Bool.and_eq_true, decide_eq_true_eq] at h
  simp only [cho, choN, Bool.or_eq_false_iff, decide_eq_false_iff_not]
  omega

/-- What the loop answers, said by counting. -/
theorem hdrTo_eq : ∀ (l : List UInt8) (d c : Nat), hdrTo d c l = (l.all (fun b => ind b || cho b) && decide (d + l.countP ind ≤ 1) && decide (c + l.countP cho ≤ 1))
  | [], d, c => by simp [hdrTo]; rfl
  | b :: l, d, c => by
    unfold hdrTo
    by_cases h1 : ind b = true
    · have h2 := not_both b h1
      rw [if_pos h1, hdrTo_eq l (d + 1) c]
      simp [List.countP_cons, h1, h2, Nat.add_assoc, Nat.add_comm 1]
    · rw [if_neg h1]
      by_cases h2 : cho b = true
      · rw [if_pos h2, hdrTo_eq l d (c + 1)]
        simp [List.countP_cons, h1, h2, Nat.add_assoc, Nat.add_comm 1]
      · rw [if_neg h2]
        simp [h1, h2]

theorem hdr_eq (l : List UInt8) : hdr l = (l.all (fun b => ind b || cho b) && decide (l.countP ind ≤ 1) && decide (l.countP cho ≤ 1)) := by
  unfold hdr
  rw [hdrTo_eq]
  simp

theorem len_of_all : ∀ (l : List UInt8), l.all (fun b => ind b || cho b) = true → l.length = l.countP ind + l.countP cho
  | [], _ => by simp
  | b :: l, h => by
    simp only [List.all_cons, Bool.and_eq_true] at h
    have ih := len_of_all l h.2
    by_cases h1 : ind b = true
    · have h2 := not_both b h1
      simp [List.countP_cons, h1, h2]
      omega
    · have h2 : cho b = true := by simpa [h1] using h.1
      simp [List.countP_cons, h1, h2]
      omega

/-- More than two bytes: never a header. -/
theorem hdr_long (l : List UInt8) (h : 2 < l.length) : hdr l = false := by
  rw [hdr_eq]
  by_cases ha : l.all (fun b => ind b || cho b) = true
  · have := len_of_all l ha
    by_cases h1 : l.countP ind ≤ 1
    · have h2 : ¬ l.countP cho ≤ 1 := by omega
      simp [h2]
    · simp [h1]
  · simp only [Bool.not_eq_true] at ha
    rw [ha]
    rfl

theorem hdr_nil : hdr [] = true := rfl
theorem hdr_one (a : UInt8) : hdr [a] = (ind a || cho a) := by
  unfold hdr hdrTo hdrTo
  cases h1 : ind a <;> cases h2 : cho a <;> simp
theorem hdr_two (a b : UInt8) : hdr [a, b] = ((ind a && cho b) || (cho a && ind b)) := by
  unfold hdr hdrTo hdrTo hdrTo
  have na := not_both a
  have nb := not_both b
  cases h1 : ind a <;> cases h2 : cho a <;> cases h3 : ind b <;> cases h4 : cho b <;> simp_all

theorem hasInd_eq (l : List UInt8) : hasInd l = decide (1 ≤ l.countP ind) := by
  unfold hasInd
  rw [Bool.eq_iff_iff]
  simp only [List.any_eq_true, decide_eq_true_eq]
  exact List.countP_pos_iff.symm
theorem hasCho_eq (l : List UInt8) : hasCho l = decide (1 ≤ l.countP cho) := by
  unfold hasCho
  rw [Bool.eq_iff_iff]
  simp only [List.any_eq_true, decide_eq_true_eq]
  exact List.countP_pos_iff.symm

theorem join (a b : List UInt8) : hdr (a ++ b) = (hdr a && hdr b && !(hasInd a && hasInd b) && !(hasCho a && hasCho b)) := by
  rw [hdr_eq, hdr_eq, hdr_eq, hasInd_eq, hasInd_eq, hasCho_eq, hasCho_eq, Bool.eq_iff_iff]
  simp only [List.all_append, List.countP_append, Bool.and_eq_true, decide_eq_true_eq, Bool.not_eq_true', Bool.and_eq_false_iff, decide_eq_false_iff_not]
  constructor
  · rintro ⟨⟨⟨h1, h2⟩, h3⟩, h4⟩
    refine ⟨⟨⟨⟨⟨h1, ?_⟩, ?_⟩, ⟨h2, ?_⟩, ?_⟩, ?_⟩, ?_⟩ <;> omega
  · rintro ⟨⟨⟨⟨⟨h1, _⟩, _⟩, ⟨h2, _⟩, _⟩, _⟩, _⟩
    refine ⟨⟨⟨h1, h2⟩, ?_⟩, ?_⟩ <;> omega

end Go.Proofs.Qxb6625858a.Plain
