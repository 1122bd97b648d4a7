/-
  OWN WORK. The plain law; the walk of FnAddThenCommonRecoversMore.
-/
import Derived.Test.Qxb6603895aCommon
namespace Go.Proofs.Qxb6603895a
open Go Go.RowKit
set_option linter.unusedVariables false
set_option linter.unusedSimpArgs false

theorem mem_addStep {a : List ByteArray} {x y : ByteArray} (h : y ∈ a ∨ y = x) : y ∈ addStep a x := by
  unfold addStep
  split
  · rename_i hc
    rcases h with h | rfl
    · exact h
    · exact (Lib.containsS_iff _ _).1 hc
  · rcases h with h | rfl
    · exact List.mem_append_left _ h
    · exact List.mem_append_right _ (List.mem_singleton.2 rfl)
theorem mem_addL {m : List ByteArray} : ∀ {a : List ByteArray} {x : ByteArray}, x ∈ a ∨ x ∈ m → x ∈ addL a m := by
  induction m with
  | nil => intro a x h; simpa [addL] using h
  | cons y m ih =>
    intro a x h
    show x ∈ addL (addStep a y) m
    refine ih ?_
    rcases h with h | h
    · exact .inl (mem_addStep (.inl h))
    · rcases List.mem_cons.1 h with h | h
      · exact .inl (mem_addStep (.inr h))
      · exact .inr h
theorem com_eq {o : List ByteArray} : ∀ (a c : List ByteArray), (∀ x ∈ a, Lib.containsS o x = true) → a.foldl (comStep o) c = a.foldl addStep c
  | [], _, _ => rfl
  | x :: a, c, h => by
    have hx := h x (List.mem_cons_self ..)
    have e : comStep o c x = addStep c x := by
      unfold comStep addStep
      rw [hx]
      cases Lib.containsS c x <;> rfl
    rw [List.foldl_cons, List.foldl_cons, e]
    exact com_eq a _ fun y hy => h y (List.mem_cons_of_mem _ hy)
/-- THE PLAIN LAW. -/
theorem recovers (a m : List ByteArray) : comL m (addL a m) = comL m m := by
  unfold comL
  rw [com_eq m [] fun x hx => (Lib.containsS_iff _ _).2 (mem_addL (.inr hx)), com_eq m [] fun x hx => (Lib.containsS_iff _ _).2 hx]

theorem row_base {B B' : Nat} {w : World} {s : Value} {l : List ByteArray} (h : Row B w s l) (hb : B' ≤ B) : Row B' w s l :=
  ⟨h.1, h.2.elim (fun h => .inl h) fun ⟨g, cap, cur, hv, h1, rest⟩ => .inr ⟨g, cap, cur, hv, Nat.le_trans hb h1, rest⟩⟩
set_option maxRecDepth 100000 in
theorem walk3 {w : World} {s1 s2 : Value} {l1 l2 : List ByteArray} (h1 : Rd w s1 l1) (h2 : Rd w s2 l2) (hz1 : ∀ x ∈ l1, x.size ≤ maxLen) (hz2 : ∀ x ∈ l2, x.size ≤ maxLen) :
    Calls Try.prog 3 #[s1, s2] w fun e w' => e = .returned (.bool true) ∧ Below w.heap.size w w' := by
  obtain ⟨a1, c1, rfl, hm1, -⟩ := id h1
  obtain ⟨a2, c2, rfl, hm2, -⟩ := id h2
  have H1 := hide h1
  have H2 := hide h2
  have HZ1 := hide hz1
  have HZ2 := hide hz2
  unfold maxLen at hm1 hm2
  clear h1 h2 hz1 hz2
  go_enter Try.func3, Try.ntmps3
  go_wp2_with fail
  refine (bytes6 (unhide H1) (unhide H2) (unhide HZ1) (unhide HZ2)).mono ?_
  rintro e w' ⟨⟨b, rfl⟩, rfl⟩
  cases b with
  | false =>
    go_wp2_with fail
    go_ret
    exact ⟨rfl, Below.refl _ _⟩
  | true =>
    by_cases q1 : (4096 : Int) < (l1.length : Int)
    · go_wp2_with fail
      go_ret
      exact ⟨rfl, Below.refl _ _⟩
    by_cases q2 : (4096 : Int) < (l2.length : Int)
    · go_wp2_with fail
      go_ret
      exact ⟨rfl, Below.refl _ _⟩
    go_wp2_with fail
    refine (sb7 (unhide H1) (unhide HZ1)).mono ?_
    rintro e w1 ⟨⟨n1, hn1, hn1', rfl⟩, rfl⟩
    go_wp2_with fail
    refine (sb7 (unhide H2) (unhide HZ2)).mono ?_
    rintro e w1 ⟨⟨n2, hn2, hn2', rfl⟩, rfl⟩
    by_cases q3 : (1048576 : Int) < n1 + n2
    · go_wp2_with fail
      go_ret
      exact ⟨rfl, Below.refl _ _⟩
    go_wp2_with fail
    refine (clone8 (unhide H1) (by omega)).mono ?_
    rintro e w2 ⟨s1', rfl, hr1, hb1⟩
    have HR1 := hide hr1
    have HB1 := hide hb1
    clear hr1 hb1
    go_wp2_with fail
    refine (clone8 ((unhide H2).below (unhide HB1)) (by omega)).mono ?_
    rintro e w3 ⟨s2', rfl, hr2, hb2⟩
    have HR1' := hide (ownsRow_below (unhide HR1) hb2)
    have HR2 := hide hr2
    have HB2 := hide ((unhide HB1).trans (hb2.mono (unhide HB1).size))
    clear hr2 hb2
    go_wp2_with fail
    have hap : Apart s1' s2' := by
      intro g hg e
      have h1 := ((unhide HR1).lt g hg).2
      have h2 := ((unhide HR2).lt g e).1
      omega
    refine (add9 (unhide HR1') (row_base (unhide HR2) (unhide HB1).size) hap (unhide HB2).size (by omega)).mono ?_
    rintro e w4 ⟨s3, rfl, hr3, hr2', hb3⟩
    have HR3 := hide hr3
    have HR2' := hide hr2'
    have HB3 := hide ((unhide HB2).trans hb3)
    clear hr3 hr2' hb3 hap
    go_wp2_with fail
    refine (common10 (rd_of_row (unhide HR2')) (rd_of_row (unhide HR3)) (by omega)).mono ?_
    rintro e w5 ⟨s4, rfl, hr4, hb4, hn4⟩
    rw [recovers] at hr4 hn4
    have HR4 := hide hr4
    have HN4 := hide hn4
    have HB4 := hide ((unhide HB3).trans (hb4.mono (unhide HB3).size))
    have HR25 := hide ((rd_of_row (unhide HR2')).below hb4)
    clear hr4 hn4 hb4
    go_wp2_with fail
    refine (common10 (unhide HR25) (unhide HR25) (by omega)).mono ?_
    rintro e w6 ⟨s5, rfl, hr5, hb5, hn5⟩
    have HR5 := hide hr5
    have HN5 := hide hn5
    have HR46 := hide ((rd_of_row (unhide HR4)).below hb5)
    have HB5 := hide ((unhide HB4).trans (hb5.mono (unhide HB4).size))
    clear hr5 hn5 hb5
    go_wp2_with fail
    have hlen := comL_len l2 l2
    refine (eq11 (unhide HR46) (rd_of_row (unhide HR5)) (unhide HN4) (unhide HN5) (by omega)).mono ?_
    rintro e w7 ⟨rfl, hb7⟩
    have HB7 := hide ((unhide HB5).trans (hb7.mono (unhide HB5).size))
    clear hb7
    go_wp2_with fail
    go_ret
    exact ⟨rfl, unhide HB7⟩
end Go.Proofs.Qxb6603895a
