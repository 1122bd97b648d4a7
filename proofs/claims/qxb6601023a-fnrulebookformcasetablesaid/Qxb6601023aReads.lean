/-
  OWN WORK. The field readers' contracts.
-/
import Derived.Test.Qxb6601023aRows
import Derived.Test.Qxb6601023aHeap
import Derived.WalkKit
import Derived.WalkLawsBesides
import Derived.Outline
namespace Go.Proofs.Qxb6601023a
open Go.RowKit
set_option linter.unusedVariables false

section
variable (c0 c1 c2 c3 c4 c5 c6 c7 c8 c9 c10 : Value) (w : World)

theorem get30 : Calls Try.prog 30 #[.agg #[c0, c1, c2, c3, c4, c5, c6, c7, c8, c9, c10]] w fun e w' => e = .returned c0 ∧ Below w.heap.size w w' := by
  go_enter Try.func30, Try.ntmps30
  go_wp2
  go_ret
  exact ⟨rfl, (Below.refl _ _).alloc (Nat.le_refl _) _⟩

theorem get31 : Calls Try.prog 31 #[.agg #[c0, c1, c2, c3, c4, c5, c6, c7, c8, c9, c10]] w fun e w' => e = .returned c1 ∧ Below w.heap.size w w' := by
  go_enter Try.func31, Try.ntmps31
  go_wp2
  go_ret
  exact ⟨rfl, (Below.refl _ _).alloc (Nat.le_refl _) _⟩

theorem get32 : Calls Try.prog 32 #[.agg #[c0, c1, c2, c3, c4, c5, c6, c7, c8, c9, c10]] w fun e w' => e = .returned c2 ∧ Below w.heap.size w w' := by
  go_enter Try.func32, Try.ntmps32
  go_wp2
  go_ret
  exact ⟨rfl, (Below.refl _ _).alloc (Nat.le_refl _) _⟩

theorem get33 : Calls Try.prog 33 #[.agg #[c0, c1, c2, c3, c4, c5, c6, c7, c8, c9, c10]] w fun e w' => e = .returned c3 ∧ Below w.heap.size w w' := by
  go_enter Try.func33, Try.ntmps33
  go_wp2
  go_ret
  exact ⟨rfl, (Below.refl _ _).alloc (Nat.le_refl _) _⟩

theorem get34 : Calls Try.prog 34 #[.agg #[c0, c1, c2, c3, c4, c5, c6, c7, c8, c9, c10]] w fun e w' => e = .returned c4 ∧ Below w.heap.size w w' := by
  go_enter Try.func34, Try.ntmps34
  go_wp2
  go_ret
  exact ⟨rfl, (Below.refl _ _).alloc (Nat.le_refl _) _⟩

theorem get35 : Calls Try.prog 35 #[.agg #[c0, c1, c2, c3, c4, c5, c6, c7, c8, c9, c10]] w fun e w' => e = .returned c5 ∧ Below w.heap.size w w' := by
  go_enter Try.func35, Try.ntmps35
  go_wp2
  go_ret
  exact ⟨rfl, (Below.refl _ _).alloc (Nat.le_refl _) _⟩

theorem get36 : Calls Try.prog 36 #[.agg #[c0, c1, c2, c3, c4, c5, c6, c7, c8, c9, c10]] w fun e w' => e = .returned c6 ∧ Below w.heap.size w w' := by
  go_enter Try.func36, Try.ntmps36
  go_wp2
  go_ret
  exact ⟨rfl, (Below.refl _ _).alloc (Nat.le_refl _) _⟩

theorem get37 : Calls Try.prog 37 #[.agg #[c0, c1, c2, c3, c4, c5, c6, c7, c8, c9, c10]] w fun e w' => e = .returned c7 ∧ Below w.heap.size w w' := by
  go_enter Try.func37, Try.ntmps37
  go_wp2
  go_ret
  exact ⟨rfl, (Below.refl _ _).alloc (Nat.le_refl _) _⟩

theorem get28 : Calls Try.prog 28 #[.agg #[c0, c1, c2, c3, c4, c5, c6, c7, c8, c9, c10]] w fun e w' => e = .returned c10 ∧ Below w.heap.size w w' := by
  go_enter Try.func28, Try.ntmps28
  go_wp2
  go_ret
  exact ⟨rfl, (Below.refl _ _).alloc (Nat.le_refl _) _⟩
end

theorem get21 (c0 c1 c2 c3 c4 c5 c6 c7 c9 c10 : Value) (a : Option Addr) (n c : Nat) (w : World) : Calls Try.prog 21 #[.agg #[c0, c1, c2, c3, c4, c5, c6, c7, .slice a n c, c9, c10]] w fun e w' => e = .returned (.int .i64 n) ∧ Below w.heap.size w w' := by
  go_enter Try.func21, Try.ntmps21
  go_wp2
  go_ret
  exact ⟨rfl, (Below.refl _ _).alloc (Nat.le_refl _) _⟩

theorem get26 (c0 c1 c2 c3 c4 c5 c6 c7 c8 c10 : Value) (a : Option Addr) (n c : Nat) (w : World) : Calls Try.prog 26 #[.agg #[c0, c1, c2, c3, c4, c5, c6, c7, c8, .slice a n c, c10]] w fun e w' => e = .returned (.int .i64 n) ∧ Below w.heap.size w w' := by
  go_enter Try.func26, Try.ntmps26
  go_wp2
  go_ret
  exact ⟨rfl, (Below.refl _ _).alloc (Nat.le_refl _) _⟩

theorem get23 (c0 c1 c2 c3 c4 c5 c6 c7 c9 c10 : Value) (g n c k : Nat) (x : Value) (w : World) (hk : k < n) (hn : n ≤ maxLen) (hlt : g < w.heap.size) (hc : w.cell? ⟨g, k * 3, none⟩ = some x) :
    Calls Try.prog 23 #[.agg #[c0, c1, c2, c3, c4, c5, c6, c7, .slice (some ⟨g, 0, none⟩) n c, c9, c10], .int .i64 k] w fun e w' => e = .returned x ∧ Below w.heap.size w w' := by
  unfold maxLen at hn
  go_enter Try.func23, Try.ntmps23
  go_wp2
  go_ret
  exact ⟨rfl, (Below.refl _ _).alloc (Nat.le_refl _) _⟩

theorem get24 (c0 c1 c2 c3 c4 c5 c6 c7 c9 c10 : Value) (g n c k : Nat) (x : Value) (w : World) (hk : k < n) (hn : n ≤ maxLen) (hlt : g < w.heap.size) (hc : w.cell? ⟨g, k * 3 + 1, none⟩ = some x) :
    Calls Try.prog 24 #[.agg #[c0, c1, c2, c3, c4, c5, c6, c7, .slice (some ⟨g, 0, none⟩) n c, c9, c10], .int .i64 k] w fun e w' => e = .returned x ∧ Below w.heap.size w w' := by
  unfold maxLen at hn
  go_enter Try.func24, Try.ntmps24
  go_wp2
  go_ret
  exact ⟨rfl, (Below.refl _ _).alloc (Nat.le_refl _) _⟩

theorem get25 (c0 c1 c2 c3 c4 c5 c6 c7 c9 c10 : Value) (g n c k : Nat) (x : Value) (w : World) (hk : k < n) (hn : n ≤ maxLen) (hlt : g < w.heap.size) (hc : w.cell? ⟨g, k * 3 + 2, none⟩ = some x) :
    Calls Try.prog 25 #[.agg #[c0, c1, c2, c3, c4, c5, c6, c7, .slice (some ⟨g, 0, none⟩) n c, c9, c10], .int .i64 k] w fun e w' => e = .returned x ∧ Below w.heap.size w w' := by
  unfold maxLen at hn
  go_enter Try.func25, Try.ntmps25
  go_wp2
  go_ret
  exact ⟨rfl, (Below.refl _ _).alloc (Nat.le_refl _) _⟩

theorem get27 (c0 c1 c2 c3 c4 c5 c6 c7 c8 c10 : Value) (g n c k : Nat) (x : Value) (w : World) (hk : k < n) (hn : n ≤ maxLen) (hlt : g < w.heap.size) (hc : w.cell? ⟨g, k, none⟩ = some x) :
    Calls Try.prog 27 #[.agg #[c0, c1, c2, c3, c4, c5, c6, c7, c8, .slice (some ⟨g, 0, none⟩) n c, c10], .int .i64 k] w fun e w' => e = .returned x ∧ Below w.heap.size w w' := by
  unfold maxLen at hn
  go_enter Try.func27, Try.ntmps27
  go_wp2
  go_ret
  exact ⟨rfl, (Below.refl _ _).alloc (Nat.le_refl _) _⟩
end Go.Proofs.Qxb6601023a
