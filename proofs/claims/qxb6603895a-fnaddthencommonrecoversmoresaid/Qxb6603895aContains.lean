/-
  DERIVED: LAID BY THE SHELF's contract.sh OFF ITS TEMPLATE 'slices.Contains[[]string,string]' FOR THE PROGRAM 'Try' (the function's number there: 17). THE LIBRARY's OWN TEXT IS WALKED: nothing is assumed of it. Behind the contract: ONE FALSE NEIGHBOUR, a contract that says a little too much, REFUTED.
-/
import Derived.Test.Qxb6603895aChecked
import Derived.Lib.Strings
import Derived.Lib.Slices
import Derived.Lib.SlicesS
import Derived.Lib.Walk
import Derived.Test.Qxb6603895aIndex
namespace Go.Proofs

/-- slices.Contains at []string: "Contains reports whether v is present in s.": IT RETURNS 'Lib.containsS (the elements) v', which is true just where v is among them ('Lib.containsS_iff'); the world is as it was. ITS CALLEE slices.Index IS MET BY ITS OWN CONTRACT OFF THE SHELF (lay that first): no loop is walked here. -/
theorem Try.slices_Contains_string (b off n c : Nat) (zs : List ByteArray) (x : ByteArray) (w : World) (hz : n ≤ zs.length) (hbig : n ≤ 9223372036854775807) (hc : ∀ j, j < zs.length → w.cell? ⟨b, off + j, none⟩ = some (.string (zs.getD j ByteArray.empty))) :
    Calls Try.prog 17 #[.slice (some ⟨b, off, none⟩) n c, .string x] w fun e w' => e = .returned (.bool (Lib.containsS (zs.take n) x)) ∧ w' = w := by
  unfold Lib.containsS
  go_enter Try.func17, Try.ntmps17
  go_wp2_with (go_at_call 19; refine (Try.slices_Index_string b off n c zs x _ hz hbig hc).mono ?_; rintro e w' ⟨rfl, rfl⟩)
  go_ret
  exact ⟨rfl, rfl⟩

/-- The same at a slice of length 0, a nil one too. -/
theorem Try.slices_Contains_string_empty (a : Option Addr) (c : Nat) (x : ByteArray) (w : World) :
    Calls Try.prog 17 #[.slice a 0 c, .string x] w fun e w' => e = .returned (.bool false) ∧ w' = w := by
  go_enter Try.func17, Try.ntmps17
  go_wp2_with (go_at_call 19; refine (Try.slices_Index_string_empty a c x _).mono ?_; rintro e w' ⟨rfl, rfl⟩)
  go_ret
  exact ⟨rfl, rfl⟩

/-- A LITTLE TOO MUCH: 'true of every slice that is not empty': falls at ["a"], "b". -/
theorem Try.slices_Contains_string_not : ¬ ∀ (b off n c : Nat) (zs : List ByteArray) (x : ByteArray) (w : World), n ≤ zs.length → n ≤ 9223372036854775807 → (∀ j, j < zs.length → w.cell? ⟨b, off + j, none⟩ = some (.string (zs.getD j ByteArray.empty))) →
    Calls Try.prog 17 #[.slice (some ⟨b, off, none⟩) n c, .string x] w fun e w' => e = .returned (.bool (decide (0 < n))) ∧ w' = w := by
  intro h
  let a : ByteArray := ⟨#[97]⟩
  let w : World := (default : World).alloc (.cells #[.string a] 0)
  have hc : ∀ j, j < [a].length → w.cell? ⟨0, 0 + j, none⟩ = some (.string ([a].getD j ByteArray.empty)) := by
    intro j hj
    have : j = 0 := by simp at hj; omega
    subst this
    rfl
  have e := Lib.agree (by kernel_rfl) (Try.slices_Contains_string 0 0 1 1 [a] ⟨#[98]⟩ w (by decide) (by decide) hc) (h 0 0 1 1 [a] ⟨#[98]⟩ w (by decide) (by decide) hc)
  injection e with e
  revert e
  decide

end Go.Proofs
