/-
  OWN WORK. The bounds (zzBytes.., zzStringsBytes), zzClone.
-/
import Derived.Test.Qxb6603895aBase
namespace Go.Proofs.Qxb6603895a
open Go Go.RowKit
set_option linter.unusedVariables false
set_option linter.unusedSimpArgs false

set_option maxRecDepth 100000 in
theorem sb7 {w : World} {s : Value} {l : List ByteArray} (h : Rd w s l) (hz : ∀ x ∈ l, x.size ≤ maxLen) : Calls Try.prog 7 #[s] w fun e w' => (∃ n : Int, 0 ≤ n ∧ n ≤ 1048577 ∧ e = .returned (.int .i64 n)) ∧ w' = w := by
  obtain ⟨a, c, rfl, h1, h2⟩ := h
  unfold maxLen at h1
  have H2 := hide h2
  have HZ := hide hz
  clear h2 hz
  go_enter Try.func7, Try.ntmps7
  go_wp2
  go_loop [3, 4] (fun v i => ∃ (k : Nat) (n : Int), k ≤ l.length ∧ i = .int .i64 k ∧ v = .int .i64 n ∧ 0 ≤ n ∧ n ≤ 1048576) (fun _ i => l.length - (intOf i).toNat)
  case atStart => exact ⟨0, 0, Nat.zero_le _, rfl, rfl, by omega, by omega⟩
  case round =>
    obtain ⟨k, n, hk, rfl, rfl, hn0, hn1⟩ := hrel
    by_cases hlt : k < l.length
    · obtain ⟨b, off, rfl, _, hcell⟩ := (unhide H2) k hlt
      have hsz := (unhide HZ) l[k] (List.getElem_mem hlt)
      unfold maxLen at hsz
      generalize l[k] = x at hcell hsz
      go_wp2
      · go_ret
        exact ⟨⟨_, by omega, by omega, rfl⟩, rfl⟩
      · go_ret
        exact ⟨⟨_, by omega, by omega, rfl⟩, rfl⟩
      · go_round
        case rel => exact ⟨k + 1, _, by omega, by go_num, rfl, by omega, by omega⟩
        case measure => simp [intOf]; omega
    · go_wp2
      go_ret
      exact ⟨⟨n, by omega, by omega, rfl⟩, rfl⟩

def AnyBool (e : Ending) : Prop := ∃ b : Bool, e = .returned (.bool b)
set_option maxRecDepth 100000 in
theorem bytes6 {w : World} {s1 s2 : Value} {l1 l2 : List ByteArray} (h : Rd w s1 l1) (h' : Rd w s2 l2) (hz1 : ∀ x ∈ l1, x.size ≤ maxLen) (hz2 : ∀ x ∈ l2, x.size ≤ maxLen) : Calls Try.prog 6 #[s1, s2] w fun e w' => AnyBool e ∧ w' = w := by
  obtain ⟨a1, c1, rfl, hm1, hc1⟩ := h
  obtain ⟨a2, c2, rfl, hm2, hc2⟩ := h'
  unfold maxLen at hm1 hm2
  have H1 := hide hc1
  have H2 := hide hc2
  have HZ1 := hide hz1
  have HZ2 := hide hz2
  clear hc1 hc2 hz1 hz2
  go_enter Try.func6, Try.ntmps6
  go_wp2
  · go_ret; exact ⟨⟨_, rfl⟩, rfl⟩
  go_loop [5, 6] (fun v i => ∃ (k : Nat) (n : Int), k ≤ l1.length ∧ i = .int .i64 k ∧ v = .int .i64 n ∧ 0 ≤ n ∧ n ≤ 1048576) (fun _ i => l1.length - (intOf i).toNat)
  case atStart => exact ⟨0, _, Nat.zero_le _, rfl, rfl, by omega, by omega⟩
  case round =>
    obtain ⟨k, n, hk, rfl, rfl, hn0, hn1⟩ := hrel
    by_cases hlt : k < l1.length
    · obtain ⟨b, off, rfl, _, hcell⟩ := (unhide H1) k hlt
      have hsz := (unhide HZ1) l1[k] (List.getElem_mem hlt)
      unfold maxLen at hsz
      generalize l1[k] = x at hcell hsz
      go_wp2
      · go_ret; exact ⟨⟨_, rfl⟩, rfl⟩
      · go_ret; exact ⟨⟨_, rfl⟩, rfl⟩
      · go_round
        case rel => exact ⟨k + 1, _, by omega, by go_num, rfl, by omega, by omega⟩
        case measure => simp [intOf]; omega
    · go_wp2
      · go_ret; exact ⟨⟨_, rfl⟩, rfl⟩
      · go_ret; exact ⟨⟨_, rfl⟩, rfl⟩
      go_loop [5, 7] (fun v i => ∃ (k : Nat) (n : Int), k ≤ l2.length ∧ i = .int .i64 k ∧ v = .int .i64 n ∧ 0 ≤ n ∧ n ≤ 1048576) (fun _ i => l2.length - (intOf i).toNat)
      case atStart => exact ⟨0, _, Nat.zero_le _, rfl, rfl, by omega, by omega⟩
      case round =>
        obtain ⟨k, n, hk, rfl, rfl, hn0, hn1⟩ := hrel
        by_cases hlt : k < l2.length
        · obtain ⟨b, off, rfl, _, hcell⟩ := (unhide H2) k hlt
          have hsz := (unhide HZ2) l2[k] (List.getElem_mem hlt)
          unfold maxLen at hsz
          generalize l2[k] = x at hcell hsz
          go_wp2
          · go_ret; exact ⟨⟨_, rfl⟩, rfl⟩
          · go_ret; exact ⟨⟨_, rfl⟩, rfl⟩
          · go_round
            case rel => exact ⟨k + 1, _, by omega, by go_num, rfl, by omega, by omega⟩
            case measure => simp [intOf]; omega
        · go_wp2
          go_ret
          exact ⟨⟨_, rfl⟩, rfl⟩
end Go.Proofs.Qxb6603895a
