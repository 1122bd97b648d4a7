/-
  The proof of 'Rows.FnRulebookFormCaseTableSaid'. The frame: the kit's shell; the walk: own work.
-/
import Derived.Test.Qxb6601023aRows
import Derived.Test.Qxb6601023aFits
import Derived.WalkKit
import Derived.ProofKit
import Derived.OpenShut
import Derived.ShutString
namespace Go.Proofs.Qxb6601023a.fnRulebookFormCaseTable
open Go.ChangeShapes Go.WideShapes Go.ChangeAt Go.RowKit
open Go.Proofs.Qxb6601023a
open Go.ChangeMaps (open_string shut_string)
set_option linter.unusedVariables false      -- a walk need not use every 'w<i>' (that an integer argument fits its kind)

theorem own : ownKnob Try.prog.godebug = none := by kernel_rfl

/-! ### STEP 1: THE WALK: the Go text returns true. -/
theorem bytes_small (a0 : ByteArray) (w0 : a0.size ≤ maxLen) (h : ¬ ((1048576 : Int) < (a0.size : Int))) (w : World) :
    Calls Try.prog 6 #[.string a0] w fun e w' => e = .returned (.bool true) ∧ w' = w := by
  unfold maxLen at w0
  go_enter Try.func6, Try.ntmps6
  go_wp2
  go_ret
  exact ⟨rfl, rfl⟩
theorem bytes_big (a0 : ByteArray) (w0 : a0.size ≤ maxLen) (h : (1048576 : Int) < (a0.size : Int)) (w : World) :
    Calls Try.prog 6 #[.string a0] w fun e w' => e = .returned (.bool false) ∧ w' = w := by
  unfold maxLen at w0
  go_enter Try.func6, Try.ntmps6
  go_wp2
  go_ret
  exact ⟨rfl, rfl⟩

set_option maxRecDepth 100000 in
set_option maxHeartbeats 1000000 in
theorem walk_sh (a0 : ByteArray) (w0 : a0.size ≤ maxLen) (hs : ¬ ((65536 : Int) < (a0.size : Int))) (hb : (a0.toList == [98, 111, 97, 114, 100]) = false) (w : World) :
    Calls Try.prog 3 #[.string a0] w fun e w' => e = .returned (.bool true) ∧ Below w.heap.size w w' := by
  have hs2 : ¬ ((1048576 : Int) < (a0.size : Int)) := by omega
  have HW := fun W => (hide (shForm10 W))
  have HN := fun v W (h : FormIs [] 6 W v shTree) => hide (enc8 6 shTree [] W v h fit_sh size_sh)
  generalize enc 6 shTree = E at HW HN
  go_enter Try.func3, Try.ntmps3
  go_wp2_with fail
  refine (bytes_small a0 w0 (by omega) _).mono ?_
  rintro e w' ⟨rfl, rfl⟩
  have hW0 := w0
  unfold maxLen at w0
  go_wp2_with fail
  refine (form7 a0 good_sh (form20_sh a0 hb) _).mono ?_
  rintro e w1 ⟨v, rfl, hf, hbel⟩
  obtain ⟨a4, n4, d4, a5, n5, d5, a6, n6, d6, a7, n7, d7, a8, n8, d8, a9, n9, d9, a10, n10, d10, rfl, -⟩ := hf.open
  have HF := hide hf
  have HBL := hide hbel
  clear hf hbel
  go_wp2_with fail
  have ka : ∀ A, Keep [] w1 (w1.alloc A) := fun A => (Keep.refl _ _).alloc _
  refine ((unhide (HN _ _ ((unhide HF).keep (ka _))))).mono ?_
  rintro e w2 ⟨rfl, hb2⟩
  have HB2 := hide (((unhide HBL).alloc (unhide HBL).size _).trans (hb2.mono (by have := (unhide HBL).size; simp; omega)))
  clear hb2 ka
  go_wp2_with fail
  refine (unhide (HW _)).mono ?_
  rintro e w3 ⟨rfl, hb3⟩
  have HB3 := hide ((unhide HB2).trans (hb3.mono (unhide HB2).size))
  clear hb3
  have hE : (E.toList == E.toList) = true := by simp
  go_wp2
  go_ret
  exact ⟨by simp, unhide HB3⟩

set_option maxRecDepth 100000 in
set_option maxHeartbeats 1000000 in
theorem walk_bd (a0 : ByteArray) (w0 : a0.size ≤ maxLen) (hs : ¬ ((65536 : Int) < (a0.size : Int))) (hb : (a0.toList == [98, 111, 97, 114, 100]) = true) (w : World) :
    Calls Try.prog 3 #[.string a0] w fun e w' => e = .returned (.bool true) ∧ Below w.heap.size w w' := by
  have hs2 : ¬ ((1048576 : Int) < (a0.size : Int)) := by omega
  have HW := fun W => (hide (bdForm9 W))
  have HN := fun v W (h : FormIs [] 6 W v bdTree) => hide (enc8 6 bdTree [] W v h fit_bd size_bd)
  generalize enc 6 bdTree = E at HW HN
  go_enter Try.func3, Try.ntmps3
  go_wp2_with fail
  refine (bytes_small a0 w0 (by omega) _).mono ?_
  rintro e w' ⟨rfl, rfl⟩
  have hW0 := w0
  unfold maxLen at w0
  go_wp2_with fail
  refine (form7 a0 good_bd (form20_bd a0 hb) _).mono ?_
  rintro e w1 ⟨v, rfl, hf, hbel⟩
  obtain ⟨a4, n4, d4, a5, n5, d5, a6, n6, d6, a7, n7, d7, a8, n8, d8, a9, n9, d9, a10, n10, d10, rfl, -⟩ := hf.open
  have HF := hide hf
  have HBL := hide hbel
  clear hf hbel
  go_wp2_with fail
  have ka : ∀ A, Keep [] w1 (w1.alloc A) := fun A => (Keep.refl _ _).alloc _
  refine ((unhide (HN _ _ ((unhide HF).keep (ka _))))).mono ?_
  rintro e w2 ⟨rfl, hb2⟩
  have HB2 := hide (((unhide HBL).alloc (unhide HBL).size _).trans (hb2.mono (by have := (unhide HBL).size; simp; omega)))
  clear hb2 ka
  go_wp2_with fail
  refine (unhide (HW _)).mono ?_
  rintro e w3 ⟨rfl, hb3⟩
  have HB3 := hide ((unhide HB2).trans (hb3.mono (unhide HB2).size))
  clear hb3
  have hE : (E.toList == E.toList) = true := by simp
  go_wp2
  go_ret
  exact ⟨by simp, unhide HB3⟩

theorem walk (a0 : ByteArray) (w0 : a0.size ≤ maxLen) (w : World) :
    Calls Try.prog 3 #[.string a0] w fun e w' => e = .returned (.bool true) ∧ Below w.heap.size w w' := by
  by_cases h1 : (1048576 : Int) < (a0.size : Int)
  · go_enter Try.func3, Try.ntmps3
    go_wp2_with (go_at_call 6; refine (bytes_big _ w0 h1 _).mono ?_; rintro e w' ⟨rfl, rfl⟩)
    go_ret
    exact ⟨rfl, Below.refl _ _⟩
  by_cases h2 : (65536 : Int) < (a0.size : Int)
  · go_enter Try.func3, Try.ntmps3
    go_wp2_with fail
    refine (bytes_small a0 w0 (by omega) _).mono ?_
    rintro e w' ⟨rfl, rfl⟩
    unfold maxLen at w0
    go_wp2
    go_ret
    exact ⟨rfl, Below.refl _ _⟩
  cases hb : (a0.toList == [98, 111, 97, 114, 100]) with
  | false => exact walk_sh a0 w0 h2 hb w
  | true => exact walk_bd a0 w0 h2 hb w

/-! ### THE ROW's STEP: WRITTEN OUT: LEAVE IT -/
set_option maxRecDepth 100000 in
theorem lifted (os : Os) (started : os.Started) (H : Type) (enc : TypeId × Value → H) :
    ReturnsInHanded {} Try.checked os 3 .any (Rows.fnRulebookFormCaseTableSpec.pre6 enc Try.prog Try.f3 Rows.fnRulebookFormCaseTableRow.domain false) (Rows.fnRulebookFormCaseTableSpec.post enc Try.prog Try.f3 false true false false) := by
  refine returnsInHanded_of_change (C := Try.checked) own started (by kernel_rfl) Try.func3
    (ChangeSpec.witness6 (enc := enc) (C := Try.checked) false ⟨#[], #[.string ByteArray.empty], []⟩ 8 (by kernel_rfl) (by kernel_rfl) (by kernel_rfl) (by kernel_rfl)) ?_
  intro W base args ds gs before hval0 hW hcnd _
  have hval : ∀ (j : Nat) t v, Try.f3.params[j]? = some t → args[j]? = some v → Value.okWide Try.prog W .any base t v := hval0
  have hW' := hW
  obtain ⟨p, q, hA0, hV, rfl, hfz, hnd⟩ := hW
  have hA : DataW.TrodAll enc Try.prog W 0 (fun _ => true) true Try.f3.params.toList args.toList ds p := hA0
  rw [Try.params3] at hA hval
  obtain ⟨v0, vs0, d0, ds0, p0, q0, hargs, rfl, rfl, h0, r0⟩ := trodAll_cons hA
  obtain ⟨rfl, rfl, rfl⟩ := trodAll_nil r0
  obtain rfl : args = #[v0] := by cases args; simp_all
  obtain ⟨rfl, rfl⟩ := trodVars_none hV
  obtain ⟨a0, rfl, rfl, rfl, w0⟩ := open_string Try.underlying9 (hval 0 9 v0 rfl rfl) h0
  clear hA0 hval0
  refine (walk a0 w0 W).mono fun e W' ⟨he, bel⟩ => ?_
  subst he
  exact ⟨_, rfl, _, _, _, [], _, [], hW', trodAll_mk1 (shut_bool Try.underlying4 _), (trodAll_cons_mk (shut_string Try.underlying9 w0) trodAll_mk0), rfl, bel.frame _, fun h => by cases h⟩

theorem over : Rows.fnRulebookFormCaseTableRow.holds Try.pinned (OpenSpec.ofChange Rows.fnRulebookFormCaseTableSpec) :=
  OpenClaim.holds_of_wide 3 Try.f3 rfl rfl rfl rfl rfl rfl rfl ⟨rfl, rfl, rfl, rfl, rfl⟩ rfl rfl rfl rfl rfl (by kernel_rfl) Try.func3 (by kernel_rfl)
    (of_decide_eq_true (by kernel_rfl)) (by unfold Func.isWrapper; first | (rw [if_pos (by decide +kernel)]; kernel_rfl) | (rw [if_neg (by decide +kernel)]; exact ⟨rfl, rfl⟩))
    (fun os started H enc _ => lifted os started H enc)

/-- ████ THE STATEMENT ████ -/
theorem proved : Rows.FnRulebookFormCaseTableSaid :=
  over
end Go.Proofs.Qxb6601023a.fnRulebookFormCaseTable
