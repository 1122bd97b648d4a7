/-
  OWN WORK. AddAudiences, CommonAudiences, zzEqualExact.
-/
import Derived.Test.Qxb6603895aClone
namespace Go.Proofs.Qxb6603895a
open Go Go.RowKit
set_option linter.unusedVariables false
set_option linter.unusedSimpArgs false
attribute [local go_sem] run_eql22

def addStep (a : List ByteArray) (x : ByteArray) : List ByteArray := if Lib.containsS a x then a else a ++ [x]
def addL (a m : List ByteArray) : List ByteArray := m.foldl addStep a
theorem addL_succ {a m : List ByteArray} {k : Nat} (hk : k < m.length) : addL a (m.take (k + 1)) = addStep (addL a (m.take k)) m[k] := by
  unfold addL
  rw [List.take_succ_eq_append_getElem hk, List.foldl_append]
  rfl
theorem addL_len (a m : List ByteArray) : (addL a m).length ≤ a.length + m.length := by
  unfold addL
  induction m generalizing a with
  | nil => simp
  | cons x m ih =>
    have h1 := ih (addStep a x)
    have h2 : (addStep a x).length ≤ a.length + 1 := by unfold addStep; split <;> simp
    simp only [List.foldl_cons, List.length_cons]
    omega

def Row (B : Nat) (w : World) (s : Value) (l : List ByteArray) : Prop := w.ownsRow B 9 1 s l.length (l.map .string)
def Apart (s t : Value) : Prop := ∀ g, s.ownBlock = some g → t.ownBlock ≠ some g
theorem Apart.row {s t : Value} (h : Apart s t) : t.ownBlock = none ∨ t.ownBlock ≠ s.ownBlock := by
  cases e : t.ownBlock with
  | none => exact .inl rfl
  | some g => exact .inr fun e2 => h g e2.symm e
def Post9 (B : Nat) (w : World) (s2 : Value) (l1 l2 : List ByteArray) (e : Ending) (w' : World) : Prop := ∃ s, e = .returned s ∧ Row B w' s (addL l1 l2) ∧ Row B w' s2 l2 ∧ Below B w w'

set_option maxRecDepth 100000 in
theorem add9 {B : Nat} {w : World} {s1 s2 : Value} {l1 l2 : List ByteArray} (h1 : Row B w s1 l1) (h2 : Row B w s2 l2) (hap : Apart s1 s2) (hB : B ≤ w.heap.size) (hl : l1.length + l2.length ≤ 10000) :
    Calls Try.prog 9 #[s1, s2] w (Post9 B w s2 l1 l2) := by
  obtain ⟨a2, c2, rfl, hm, hc⟩ := rd_of_row h2
  have H1 := hide h1
  have H2 := hide h2
  have HA := hide hap
  unfold maxLen at hm
  clear h1 h2 hap hc
  go_enter Try.func9, Try.ntmps9
  go_wp2
  go_loopw [0, 9] (fun s i wr => ∃ k : Nat, k ≤ l2.length ∧ i = .int .i64 k ∧ Row B wr s (addL l1 (l2.take k)) ∧ Row B wr (.slice a2 l2.length c2) l2 ∧ Apart s (.slice a2 l2.length c2) ∧ Below B w wr) (fun _ i _ => l2.length - (intOf i).toNat)
  case atStart => exact ⟨0, Nat.zero_le _, rfl, unhide H1, unhide H2, unhide HA, Below.refl _ _⟩
  case round =>
    obtain ⟨k, hk, rfl, hr1, hr2, hap, hbr⟩ := hrel
    have HR1 := hide hr1
    have HR2 := hide hr2
    have HAP := hide hap
    have HBR := hide hbr
    have hbs : B ≤ wr.heap.size := Nat.le_trans hB hbr.size
    by_cases hlt : k < l2.length
    · obtain ⟨b, off, rfl, hbl, hcell⟩ := (rd_of_row hr2).at.2.2 k hlt
      have hlen : (addL l1 (l2.take k)).length + 1 ≤ 1000000 := by
        have := addL_len l1 (l2.take k)
        simp only [List.length_take] at this
        omega
      have HSU := hide (addL_succ (a := l1) hlt)
      clear hr1 hr2 hap hbr
      go_wp2_with fail
      refine (contains17 l2[k] (rd_of_row (unhide HR1))).mono ?_
      rintro e w2 ⟨rfl, rfl⟩
      cases hcon : Lib.containsS (addL l1 (l2.take k)) l2[k] with
      | true =>
        have HE : Hid (addL l1 (l2.take (k + 1)) = addL l1 (l2.take k)) := hide (by rw [unhide HSU, addStep, if_pos hcon])
        clear hcon
        go_wp2_with fail
        go_roundw
        case rel =>
          refine ⟨k + 1, by omega, by go_num, ?_, unhide HR2, unhide HAP, unhide HBR⟩
          rw [unhide HE]
          exact unhide HR1
        case measure => simp [intOf]; omega
      | false =>
        have HE : Hid (addL l1 (l2.take (k + 1)) = addL l1 (l2.take k) ++ [l2[k]]) := hide (by rw [unhide HSU, addStep, if_neg (by rw [hcon]; exact Bool.false_ne_true)])
        clear hcon
        go_wp2_with (at_builtin; (refine wpl_append_one (v := u0) rfl _ _ rfl rfl rfl B (addL l1 (l2.take k)) (unhide HR1) ?hB hlen hbs ?hr; (case hB => rfl); intro v' w3 hown3 hgrow3 hat3))
        have HO3 := hide hown3
        have HG3 := hide hgrow3
        have HT3 := hide hat3
        clear hown3 hgrow3 hat3
        go_roundw
        case rel =>
          have hr2 := unhide HR2
          refine ⟨k + 1, by omega, by go_num, ?_, (ownsRow_below hr2 ((Below.refl _ _).alloc (Nat.le_refl _) _)).kept (unhide HG3) (unhide HAP).row, ?_, ((unhide HBR).alloc hbs _).grown (unhide HG3) (by simp; omega) (fun b hb => ((unhide HR1).lt b hb).1)⟩
          · rw [unhide HE]
            exact unhide HO3
          · intro g hg e
            rcases unhide HT3 with h | h
            · exact (unhide HAP) g (h ▸ hg) e
            · have := (hr2.lt g e).2
              rw [h] at hg
              cases hg
              omega
        case measure => simp [intOf]; omega
    · clear hr1 hr2 hap hbr
      go_wp2_with fail
      go_ret
      have h3 := unhide HR1
      rw [List.take_of_length_le (by omega)] at h3
      exact ⟨_, rfl, h3, unhide HR2, unhide HBR⟩
end Go.Proofs.Qxb6603895a
