/-
  OWN WORK. CommonAudiences, zzEqualExact.
-/
import Derived.Test.Qxb6603895aAdd
namespace Go.Proofs.Qxb6603895a
open Go Go.RowKit
set_option linter.unusedVariables false
set_option linter.unusedSimpArgs false
attribute [local go_sem] run_eql22

def comStep (o c : List ByteArray) (x : ByteArray) : List ByteArray := if Lib.containsS o x && !Lib.containsS c x then c ++ [x] else c
def comL (a o : List ByteArray) : List ByteArray := a.foldl (comStep o) []
theorem comL_succ {a o : List ByteArray} {k : Nat} (hk : k < a.length) : comL (a.take (k + 1)) o = comStep o (comL (a.take k) o) a[k] := by
  unfold comL
  rw [List.take_succ_eq_append_getElem hk, List.foldl_append]
  rfl
theorem comStep_len (o c : List ByteArray) (x : ByteArray) : (comStep o c x).length ≤ c.length + 1 := by unfold comStep; split <;> simp
theorem comL_len (a o : List ByteArray) : (comL a o).length ≤ a.length := by
  have : ∀ c : List ByteArray, (a.foldl (comStep o) c).length ≤ c.length + a.length := by
    induction a with
    | nil => intro c; simp
    | cons x a ih =>
      intro c
      have h1 := ih (comStep o c x)
      have h2 := comStep_len o c x
      simp only [List.foldl_cons, List.length_cons]
      omega
  have h := this []
  simp only [List.length_nil, Nat.zero_add] at h
  exact h
def Post10 (w : World) (l1 l2 : List ByteArray) (e : Ending) (w' : World) : Prop := ∃ s, e = .returned s ∧ Row w.heap.size w' s (comL l1 l2) ∧ Below w.heap.size w w' ∧ (comL l1 l2 = [] → s = .slice none 0 0)

set_option maxRecDepth 100000 in
theorem common10 {w : World} {s1 s2 : Value} {l1 l2 : List ByteArray} (h1 : Rd w s1 l1) (h2 : Rd w s2 l2) (hl : l1.length ≤ 10000) :
    Calls Try.prog 10 #[s1, s2] w (Post10 w l1 l2) := by
  obtain ⟨a1, c1, rfl, hm, hc⟩ := id h1
  have H1 := hide h1
  have H2 := hide h2
  unfold maxLen at hm
  clear h1 h2 hc
  go_enter Try.func10, Try.ntmps10
  go_wp2
  go_loopw [5, 10] (fun s i wr => ∃ k : Nat, k ≤ l1.length ∧ i = .int .i64 k ∧ Row w.heap.size wr s (comL (l1.take k) l2) ∧ (comL (l1.take k) l2 = [] → s = .slice none 0 0) ∧ Below w.heap.size w wr) (fun _ i _ => l1.length - (intOf i).toNat)
  case atStart => exact ⟨0, Nat.zero_le _, rfl, World.ownsRow_nil _ _ _ _, fun _ => rfl, Below.refl _ _⟩
  case round =>
    obtain ⟨k, hk, rfl, hr, hn, hbr⟩ := hrel
    have HR := hide hr
    have HN := hide hn
    have HBR := hide hbr
    have hbs : w.heap.size ≤ wr.heap.size := hbr.size
    by_cases hlt : k < l1.length
    · obtain ⟨b, off, rfl, hbl, hcell⟩ := ((unhide H1).below hbr).at.2.2 k hlt
      have hlen : (comL (l1.take k) l2).length + 1 ≤ 1000000 := by
        have := comL_len (l1.take k) l2
        simp only [List.length_take] at this
        omega
      have HSU := hide (comL_succ (o := l2) hlt)
      clear hr hn hbr
      go_wp2_with fail
      refine (contains17 l1[k] ((unhide H2).below (unhide HBR))).mono ?_
      rintro e w2 ⟨rfl, rfl⟩
      cases hcon : Lib.containsS l2 l1[k] with
      | false =>
        have HE : Hid (comL (l1.take (k + 1)) l2 = comL (l1.take k) l2) := hide (by rw [unhide HSU, comStep, hcon]; rfl)
        clear hcon
        go_wp2_with fail
        go_roundw
        case rel =>
          refine ⟨k + 1, by omega, by go_num, ?_, ?_, unhide HBR⟩
          · rw [unhide HE]; exact unhide HR
          · rw [unhide HE]; exact unhide HN
        case measure => simp [intOf]; omega
      | true =>
        have HC1 := hide hcon
        clear hcon
        go_wp2_with fail
        refine (contains17 l1[k] (rd_of_row (unhide HR))).mono ?_
        rintro e w2 ⟨rfl, rfl⟩
        cases hcon : Lib.containsS (comL (l1.take k) l2) l1[k] with
        | true =>
          have HE : Hid (comL (l1.take (k + 1)) l2 = comL (l1.take k) l2) := hide (by rw [unhide HSU, comStep, unhide HC1, hcon]; rfl)
          clear hcon
          go_wp2_with fail
          go_roundw
          case rel =>
            refine ⟨k + 1, by omega, by go_num, ?_, ?_, unhide HBR⟩
            · rw [unhide HE]; exact unhide HR
            · rw [unhide HE]; exact unhide HN
          case measure => simp [intOf]; omega
        | false =>
          have HE : Hid (comL (l1.take (k + 1)) l2 = comL (l1.take k) l2 ++ [l1[k]]) := hide (by rw [unhide HSU, comStep, unhide HC1, hcon]; rfl)
          clear hcon
          go_wp2_with (at_builtin; (refine wpl_append_one (v := u5) rfl _ _ rfl rfl rfl w.heap.size (comL (l1.take k) l2) (unhide HR) ?hB hlen hbs ?hr; (case hB => rfl); intro v' w3 hown3 hgrow3 hat3))
          have HO3 := hide hown3
          have HG3 := hide hgrow3
          clear hown3 hgrow3 hat3
          go_roundw
          case rel =>
            refine ⟨k + 1, by omega, by go_num, ?_, ?_, ((unhide HBR).alloc hbs _).grown (unhide HG3) (by simp; omega) (fun b hb => ((unhide HR).lt b hb).1)⟩
            · rw [unhide HE]
              exact unhide HO3
            · rw [unhide HE]
              intro h
              simp at h
          case measure => simp [intOf]; omega
    · clear hr hn hbr
      go_wp2_with fail
      go_ret
      have h3 := unhide HR
      have h4 := unhide HN
      rw [List.take_of_length_le (by omega)] at h3 h4
      exact ⟨_, rfl, h3, unhide HBR, h4⟩

set_option maxRecDepth 100000 in
theorem eq11 {w : World} {s t : Value} {l : List ByteArray} (h1 : Rd w s l) (h2 : Rd w t l) (n1 : l = [] → s = .slice none 0 0) (n2 : l = [] → t = .slice none 0 0) (hl : l.length ≤ 10000) :
    Calls Try.prog 11 #[s, t] w fun e w' => e = .returned (.bool true) ∧ Below w.heap.size w w' := by
  cases l with
  | nil =>
    rw [n1 rfl, n2 rfl]
    go_enter Try.func11, Try.ntmps11
    go_wp2
    go_loop [5] (fun i => i = .int .i64 0) (fun i => 0)
    case atStart => rfl
    case round =>
      subst hrel
      go_wp2
      go_ret
      exact ⟨rfl, Below.refl _ _⟩
  | cons y r =>
    obtain ⟨a1, c1, rfl, hm, hc1⟩ := h1
    obtain ⟨a2, c2, rfl, _, hc2⟩ := h2
    obtain ⟨b1, off1, rfl, -⟩ := hc1 0 (by simp)
    obtain ⟨b2, off2, rfl, -⟩ := hc2 0 (by simp)
    have HC1 := hide hc1
    have HC2 := hide hc2
    clear hc1 hc2 n1 n2
    generalize (y :: r) = l at *
    unfold maxLen at hm
    go_enter Try.func11, Try.ntmps11
    go_wp2
    go_loopw [5] (fun i wr => ∃ k : Nat, k ≤ l.length ∧ i = .int .i64 k ∧ Below w.heap.size w wr) (fun i _ => l.length - (intOf i).toNat)
    case atStart => exact ⟨0, Nat.zero_le _, rfl, Below.refl _ _⟩
    case round =>
      obtain ⟨k, hk, rfl, hbr⟩ := hrel
      have HBR := hide hbr
      by_cases hlt : k < l.length
      · obtain ⟨b, off, e, hb1, hcell1⟩ := (unhide HC1) k hlt
        cases e
        obtain ⟨b, off, e, hb2, hcell2⟩ := (unhide HC2) k hlt
        cases e
        rw [← hbr.cell (p := ⟨b1, off1 + k, none⟩) hb1] at hcell1
        rw [← hbr.cell (p := ⟨b2, off2 + k, none⟩) hb2] at hcell2
        have hself : (l[k].toList == l[k].toList) = true := by simp
        generalize l[k] = x at hcell1 hcell2 hself
        clear hbr
        go_wp2_with fail
        go_region
        go_wp2
        go_roundw
        case rel => exact ⟨k + 1, by omega, by go_num, (unhide HBR).drew⟩
        case measure => simp [intOf]; omega
      · clear hbr
        go_wp2
        go_ret
        exact ⟨rfl, unhide HBR⟩
end Go.Proofs.Qxb6603895a
