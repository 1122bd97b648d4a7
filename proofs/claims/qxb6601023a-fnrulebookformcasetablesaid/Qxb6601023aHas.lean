/-
  OWN WORK. zzHas_b1: is x among the strings?
-/
import Derived.Test.Qxb6601023aReads
namespace Go.Proofs.Qxb6601023a
open Go.RowKit
set_option linter.unusedVariables false

def has (l : List ByteArray) (x : ByteArray) : Bool := l.any fun y => y.toList == x.toList

theorem has_true {l : List ByteArray} {x : ByteArray} {k : Nat} (hk : k < l.length) (h : (l[k].toList == x.toList) = true) : has l x = true :=
  List.any_eq_true.2 ⟨l[k], List.getElem_mem hk, h⟩
theorem has_false {l : List ByteArray} {x : ByteArray} (h : ∀ j (hj : j < l.length), (l[j].toList == x.toList) = false) : has l x = false := by
  unfold has
  rw [List.any_eq_false]
  intro y hy
  obtain ⟨j, hj, rfl⟩ := List.mem_iff_getElem.1 hy
  rw [h j hj]
  exact Bool.false_ne_true
theorem ret_bool {a b : Bool} (h : a = b) : Ending.returned (.bool a) = .returned (.bool b) := by rw [h]

theorem strs_cell {X : List Nat} {w : World} {s : Value} {l : List ByteArray} (h : Strs X w s l) (h0 : 0 < l.length) :
    ∃ g c, s = .slice (some ⟨g, 0, none⟩) l.length c ∧ l.length ≤ maxLen ∧ g < w.heap.size ∧ ∀ k (hk : k < l.length), w.cell? ⟨g, k, none⟩ = some (.string l[k]) := by
  obtain ⟨g, c, hs, h1, h2, h3, _, h4⟩ := Own.pos h h0
  refine ⟨g, c, hs, by omega, h3, fun k hk => ?_⟩
  rw [h4 k (by omega), List.getElem?_map, List.getElem?_eq_getElem hk]
  rfl

theorem has39_nil (a : Option Addr) (c : Nat) (x : ByteArray) (w : World) : Calls Try.prog 39 #[.slice a 0 c, .string x] w fun e w' => e = .returned (.bool false) ∧ w' = w := by
  go_enter Try.func39, Try.ntmps39
  go_wp2
  go_loop [5] (fun i => i = .int .i64 0) (fun i => 0)
  case atStart => rfl
  case round =>
    subst hrel
    go_wp2
    go_ret
    exact ⟨rfl, rfl⟩

theorem has39_cons (g c : Nat) (l : List ByteArray) (x : ByteArray) (w : World) (hm : l.length ≤ maxLen)
   (hc : ∀ k, (h : k < l.length) → w.cell? ⟨g, k, none⟩ = some (.string l[k])) :
    Calls Try.prog 39 #[.slice (some ⟨g, 0, none⟩) l.length c, .string x] w fun e w' => e = .returned (.bool (has l x)) ∧ w' = w := by
  unfold maxLen at hm
  go_enter Try.func39, Try.ntmps39
  go_wp2
  go_loop [5] (fun i => ∃ k : Nat, k ≤ l.length ∧ i = .int .i64 k ∧ ∀ j (hj : j < l.length), j < k → (l[j].toList == x.toList) = false) (fun i => l.length - (intOf i).toNat)
  case atStart => exact ⟨0, Nat.zero_le _, rfl, fun j _ h => absurd h (Nat.not_lt_zero _)⟩
  case round =>
    obtain ⟨k, hk, rfl, hno⟩ := hrel
    have Hno : Hid (∀ j (hj : j < l.length), j < k → (l[j].toList == x.toList) = false) := hno
    clear hno
    by_cases hlt : k < l.length
    · have hcell := hc k hlt
      clear hc
      go_wp2
      · go_ret
        exact ⟨ret_bool (has_true hlt ‹_›).symm, rfl⟩
      · go_round
        case rel =>
          refine ⟨k + 1, by omega, by go_num, fun j hj hjk => ?_⟩
          by_cases e : j = k
          · subst e; assumption
          · exact Hno.out j hj (by omega)
        case measure => simp [intOf]; omega
    · clear hc
      go_wp2
      go_ret
      exact ⟨ret_bool (has_false fun j hj => Hno.out j hj (by omega)).symm, rfl⟩

theorem has39 {X : List Nat} {s : Value} {l : List ByteArray} (x : ByteArray) {w : World} (h : Strs X w s l) : Calls Try.prog 39 #[s, .string x] w fun e w' => e = .returned (.bool (has l x)) ∧ w' = w := by
  cases l with
  | nil =>
    obtain ⟨a, c, hs, _⟩ := Own.form h
    subst hs
    exact has39_nil a c x w
  | cons y r =>
    obtain ⟨g, c, hs, h1, _, h2⟩ := strs_cell h (by simp)
    subst hs
    exact has39_cons g c (y :: r) x w h1 h2
end Go.Proofs.Qxb6601023a
