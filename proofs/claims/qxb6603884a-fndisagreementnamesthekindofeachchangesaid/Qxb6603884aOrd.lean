/-
  OWN WORK. strings.Compare's order is the lists' own.
-/
import Derived.Test.Qxb6603884aLib
import Derived.Sort.Statements
namespace Go.Proofs.Qxb6603884a
open Go

theorem cb_lt : ∀ x y : List UInt8, Lib.compareBytes x y < 0 ↔ x < y
  | [], [] => by simp [Lib.compareBytes]
  | [], _ :: _ => by simp [Lib.compareBytes]
  | _ :: _, [] => by simp [Lib.compareBytes]
  | a :: x, b :: y => by
    have ih := cb_lt x y
    rw [List.cons_lt_cons_iff]
    unfold Lib.compareBytes
    by_cases h1 : a < b
    · simp [h1]
    · rw [if_neg h1]
      by_cases h2 : b < a
      · have : a ≠ b := fun e => by subst e; exact h1 h2
        simp [h1, h2, this]
      · have e : a = b := by
          apply UInt8.toNat_inj.1
          rw [UInt8.lt_iff_toNat_lt] at h1 h2
          omega
        rw [if_neg h2, ih]
        subst e
        simp [h1]
theorem bl_eq : ∀ x y : List UInt8, Op.bytesLess x y = decide (x < y)
  | [], [] => by simp [Op.bytesLess]
  | [], _ :: _ => by simp [Op.bytesLess]
  | _ :: _, [] => by simp [Op.bytesLess]
  | a :: x, b :: y => by
    rw [Op.bytesLess, bl_eq x y, Bool.eq_iff_iff]
    simp [List.cons_lt_cons_iff]
theorem lt_of_le_ne {x y : List UInt8} (h : ¬ y < x) (hne : x ≠ y) : x < y := by
  apply Classical.byContradiction
  intro h2
  exact hne (List.le_antisymm (List.not_lt.1 h) (List.not_lt.1 h2))
theorem bytes_toList (a : ByteArray) : a.toList = a.data.toList := ByteArray.toList_eq a
end Go.Proofs.Qxb6603884a
