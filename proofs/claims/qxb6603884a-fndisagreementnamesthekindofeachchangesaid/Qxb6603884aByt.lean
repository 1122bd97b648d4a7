/-
  OWN WORK. zzBytes: it bounds every value's length.
-/
import Derived.Test.Qxb6603884aKeys
namespace Go.Proofs.Qxb6603884a
open Go Go.RowKit
set_option linter.unusedVariables false
set_option linter.unusedSimpArgs false

def vlen : Value → Nat
  | .slice _ n _ => n
  | _ => 0
def Short (D : DataW Value) (ks : List ByteArray) : Prop := ∀ k ∈ ks, vlen (val D k) ≤ 1048576
def Post7 (w : World) (D : DataW Value) (ks : List ByteArray) (e : Ending) (w' : World) : Prop :=
  ∃ n : Nat, e = .returned (.int .i64 n) ∧ w' = w ∧ n ≤ 4000000 ∧ (n ≤ 1048576 → Short D ks)
def Inv7 (w : World) (D : DataW Value) (ks : List ByteArray) (s i : Value) (wr : World) : Prop :=
  ∃ k t : Nat, k ≤ ks.length ∧ i = .int .i64 k ∧ s = .int .i64 t ∧ t ≤ 1048576 ∧ wr = w ∧ Short D (ks.take k)

set_option maxRecDepth 100000 in
set_option maxHeartbeats 1000000 in
theorem bytes7 {w : World} {m s : Value} {D : DataW Value} {ks : List ByteArray} (hm : Mv w m D) (hr : Rd w s ks) (hk : KeysOk D ks) (hn : ks.length ≤ 65536) : Calls Try.prog 7 #[m, s] w (Post7 w D ks) := by
  obtain ⟨a, cc, rfl, _, hcell⟩ := id hr
  have HM := hide hm
  have HC := hide hcell
  have HK := hide hk
  clear hm hr hcell hk
  go_enter Try.func7, Try.ntmps7
  go_wp2_with fail
  go_loopw [5, 11] (fun s i wr => Inv7 w D ks s i wr) (fun _ i _ => ks.length - (intOf i).toNat)
  case atStart => exact ⟨0, 0, Nat.zero_le _, rfl, rfl, by omega, rfl, fun k hk => by simp at hk⟩
  case round =>
    obtain ⟨k, t, hkl, rfl, rfl, ht, rfl, hsh⟩ := hrel
    have HSh := hide hsh
    clear hsh
    by_cases hlt : k < ks.length
    · obtain ⟨b, off, rfl, hbl, hc⟩ := (unhide HC) k hlt
      have hkk := (unhide HK) ks[k] (List.getElem_mem hlt)
      have hlook := (unhide HM).1.look hkk.1
      obtain ⟨a2, n2, c2, e2, hn2, _⟩ := (unhide HM).2 ks[k]
      have HV := hide e2
      rw [e2] at hlook
      have hsz := hkk.1
      clear hkk e2
      unfold maxLen at hn2 hsz
      have HTake : Hid (ks.take (k + 1) = ks.take k ++ [ks[k]]) := hide (List.take_succ_eq_append_getElem hlt)
      generalize ks[k] = s1 at *
      have HStep : Hid (n2 ≤ 1048576 → Short D (ks.take (k + 1))) := by
        intro h
        rw [unhide HTake]
        intro x hx
        rcases List.mem_append.1 hx with hx | hx
        · exact (unhide HSh) x hx
        · rw [List.mem_singleton] at hx
          subst hx
          rw [unhide HV]
          exact h
      go_wp2_with fail
      · go_ret
        exact ⟨1048577, rfl, rfl, by omega, fun h => absurd h (by omega)⟩
      · go_ret
        exact ⟨t + (s1.size + n2), by go_num, rfl, by omega, fun h => absurd h (by omega)⟩
      · go_roundw
        case rel => exact ⟨k + 1, t + (s1.size + n2), by omega, by go_num, by go_num, by omega, rfl, (unhide HStep) (by omega)⟩
        case measure => simp [intOf]; omega
      · go_ret
        exact ⟨1048577, rfl, rfl, by omega, fun h => absurd h (by omega)⟩
    · go_wp2_with fail
      go_ret
      have hsh := unhide HSh
      rw [List.take_of_length_le (by omega)] at hsh
      exact ⟨t, rfl, rfl, by omega, fun _ => hsh⟩
end Go.Proofs.Qxb6603884a
