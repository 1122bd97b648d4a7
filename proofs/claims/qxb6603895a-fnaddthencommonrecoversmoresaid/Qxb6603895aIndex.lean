/-
  DERIVED: LAID BY THE SHELF's contract.sh OFF ITS TEMPLATE 'slices.Index[[]string,string]' FOR THE PROGRAM 'Try' (the function's number there: 19). THE LIBRARY's OWN TEXT IS WALKED: nothing is assumed of it. Behind the contract: ONE FALSE NEIGHBOUR, a contract that says a little too much, REFUTED.
-/
import Derived.Test.Qxb6603895aChecked
import Derived.Lib.Strings
import Derived.Lib.Slices
import Derived.Lib.SlicesS
import Derived.Lib.Walk
namespace Go.Proofs

set_option maxHeartbeats 1000000 in
/-- slices.Index at []string: "Index returns the index of the first occurrence of v in s, or -1 if not present.": IT RETURNS 'Lib.idxOfS (the elements) v'; the world is as it was. 'zs': what the cells behind the slice's address hold (its spare capacity too, if you have it); 'zs.take n': its elements. -/
theorem Try.slices_Index_string (b off n c : Nat) (zs : List ByteArray) (x : ByteArray) (w : World) (hz : n ≤ zs.length) (hbig : n ≤ 9223372036854775807) (hc : ∀ j, j < zs.length → w.cell? ⟨b, off + j, none⟩ = some (.string (zs.getD j ByteArray.empty))) :
    Calls Try.prog 19 #[.slice (some ⟨b, off, none⟩) n c, .string x] w fun e w' => e = .returned (.int .i64 (Lib.idxOfS (zs.take n) x)) ∧ w' = w := by
  go_enter Try.func19, Try.ntmps19
  go_wp2
  go_loop [5, 8] (fun _ i => ∃ k : Nat, k ≤ n ∧ i = .int .i64 k ∧ ∀ j, j < k → zs.getD j ByteArray.empty ≠ x) (fun _ i => match i with | .int _ m => n - m.toNat | _ => 0)
  case atStart => exact ⟨0, Nat.zero_le _, rfl, fun j hj => absurd hj (Nat.not_lt_zero _)⟩
  case round =>
    obtain ⟨k, hk, rfl, hne⟩ := hrel
    have hcell : k < n → w.cell? ⟨b, off + k, none⟩ = some (.string (zs.getD k ByteArray.empty)) := fun _ => hc k (by omega)
    go_wp2
    · have hlt : k < n := by assumption
      have heq : (x.toList == (zs[k]?.getD ByteArray.empty).toList) = true := by assumption
      go_ret
      refine ⟨?_, rfl⟩
      rw [Lib.idxOfS_hit zs n k x hlt hz (by simp only [List.getD]; exact ((Lib.bytes_beq_iff _ _).1 heq).symm) hne]
      rfl
    · have hlt : k < n := by assumption
      have hneq : (x.toList == (zs[k]?.getD ByteArray.empty).toList) = false := by assumption
      refine ⟨⟨_, _, _, ⟨k + 1, by omega, rfl, fun j hj => ?_⟩, rfl, rfl, ?_⟩, by omega⟩
      · by_cases e : j = k
        · subst e
          intro he
          exact (Lib.bytes_beq_false_iff _ _).1 hneq (by simpa [List.getD] using he.symm)
        · have := hne j (by omega)
          simpa [List.getD] using this
      · have e1 : ((k : Int) + 1 + 9223372036854775808) % 18446744073709551616 - 9223372036854775808 = ((k + 1 : Nat) : Int) := by omega
        rw [e1]
    · have hge : ¬ k < n := by assumption
      have : k = n := by omega
      subst this
      go_ret
      refine ⟨?_, rfl⟩
      rw [Lib.idxOfS_miss zs k x hne]
      rfl

set_option maxHeartbeats 1000000 in
/-- The same at a slice of length 0, a nil one too: no cell is known, none is asked for. -/
theorem Try.slices_Index_string_empty (a : Option Addr) (c : Nat) (x : ByteArray) (w : World) :
    Calls Try.prog 19 #[.slice a 0 c, .string x] w fun e w' => e = .returned (.int .i64 (Lib.idxOfS [] x)) ∧ w' = w := by
  go_enter Try.func19, Try.ntmps19
  go_wp2
  go_loop [5, 8] (fun _ i => i = .int .i64 0) (fun _ _ => 0)
  case atStart => rfl
  case round =>
    subst hrel
    go_wp2
    go_ret
    exact ⟨rfl, rfl⟩

/-- A LITTLE TOO MUCH: 'the index of the LAST occurrence': falls at ["a", "a"], "a". -/
theorem Try.slices_Index_string_not : ¬ ∀ (b off n c : Nat) (zs : List ByteArray) (x : ByteArray) (w : World), n ≤ zs.length → n ≤ 9223372036854775807 → (∀ j, j < zs.length → w.cell? ⟨b, off + j, none⟩ = some (.string (zs.getD j ByteArray.empty))) →
    Calls Try.prog 19 #[.slice (some ⟨b, off, none⟩) n c, .string x] w fun e w' => e = .returned (.int .i64 ((n : Int) - 1 - Lib.idxOfS (zs.take n).reverse x)) ∧ w' = w := by
  intro h
  let a : ByteArray := ⟨#[97]⟩
  let w : World := (default : World).alloc (.cells #[.string a, .string a] 0)
  have hc : ∀ j, j < [a, a].length → w.cell? ⟨0, 0 + j, none⟩ = some (.string ([a, a].getD j ByteArray.empty)) := by
    intro j hj
    have : j = 0 ∨ j = 1 := by simp at hj; omega
    rcases this with rfl | rfl <;> rfl
  have e := Lib.agree (by kernel_rfl) (Try.slices_Index_string 0 0 2 2 [a, a] a w (by decide) (by decide) hc) (h 0 0 2 2 [a, a] a w (by decide) (by decide) hc)
  injection e with _ e
  revert e
  decide

end Go.Proofs
