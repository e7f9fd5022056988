/-
  THE ORDER OF STRINGS.
-/
import Derived.Test.Qxb6626223aOps
import Derived.Test.Qxb6626223aGraph
import Derived.Sort.Walk0
namespace Go.Proofs.Qxb6626223a.Order
open Go.RowKit
set_option linter.unusedVariables false
set_option linter.unusedSimpArgs false

def slt (a b : ByteArray) : Prop := Op.bytesLess a.toList b.toList = true
instance : DecidableRel slt := fun a b => inferInstanceAs (Decidable (_ = true))

theorem slt_iff (a b : ByteArray) : slt a b ↔ a.toList < b.toList := by
  unfold slt
  rw [bytesLess_eq]
  simp
theorem slt_irr (a : ByteArray) : ¬ slt a a := by
  rw [slt_iff]
  exact List.lt_irrefl _
theorem slt_trans (a b c : ByteArray) (h : slt a b) (k : slt b c) : slt a c := by
  rw [slt_iff] at *
  exact List.lt_trans h k
theorem slt_total (a b : ByteArray) (h1 : ¬ slt a b) (h2 : ¬ slt b a) : a = b := by
  rw [slt_iff] at *
  have e := List.le_antisymm (List.not_lt.1 h2) (List.not_lt.1 h1)
  rw [ByteArray.toList_eq, ByteArray.toList_eq] at e
  exact WideShapes.bytes_inj e

end Go.Proofs.Qxb6626223a.Order
