/-
  The proof of 'Rows.FnPresentedFromNeverShowsWithheldSaid'. The frame: the kit's shell; the walk: own work.
-/
import Derived.Test.Qxb6601574aRows
import Derived.WalkKit
import Derived.ProofKit
import Derived.OpenShut
import Derived.ShutString
namespace Go.Proofs.Qxb6601574a.fnPresentedFromNeverShowsWithheld
open Go.ChangeShapes Go.WideShapes Go.ChangeAt Go.RowKit
open Go.ChangeMaps (open_string shut_string)
set_option linter.unusedVariables false      -- a walk need not use every 'w<i>' (that an integer argument fits its kind)

theorem own : ownKnob Try.prog.godebug = none := by kernel_rfl


/-! ### the callee PresentedFrom: its case table -/
theorem pres_empty (a0 : ByteArray) (a1 a2 : Bool) (h : a0.toList.isEmpty = true) (w : World) :
    Calls Try.prog 17 #[.string a0, .bool a1, .bool a2] w fun e w' => e = .returned (.string ⟨#[115, 105, 112, 58, 117, 110, 97, 118, 97, 105, 108, 97, 98, 108, 101, 64, 117, 110, 107, 110, 111, 119, 110, 46, 105, 110, 118, 97, 108, 105, 100]⟩) ∧ w' = w := by
  go_enter Try.func17, Try.ntmps17
  go_wp2
  go_ret
  exact ⟨rfl, rfl⟩
theorem pres_open (a0 : ByteArray) (a2 : Bool) (h : a0.toList.isEmpty = false) (w : World) :
    Calls Try.prog 17 #[.string a0, .bool false, .bool a2] w fun e w' => e = .returned (.string a0) ∧ w' = w := by
  go_enter Try.func17, Try.ntmps17
  go_wp2
  go_ret
  exact ⟨rfl, rfl⟩
theorem pres_anon (a0 : ByteArray) (h : a0.toList.isEmpty = false) (w : World) :
    Calls Try.prog 17 #[.string a0, .bool true, .bool true] w fun e w' => e = .returned (.string ⟨#[115, 105, 112, 58, 97, 110, 111, 110, 121, 109, 111, 117, 115, 64, 97, 110, 111, 110, 121, 109, 111, 117, 115, 46, 105, 110, 118, 97, 108, 105, 100]⟩) ∧ w' = w := by
  go_enter Try.func17, Try.ntmps17
  go_wp2
  go_ret
  exact ⟨rfl, rfl⟩
theorem pres_keep (a0 : ByteArray) (h : a0.toList.isEmpty = false) (w : World) :
    Calls Try.prog 17 #[.string a0, .bool true, .bool false] w fun e w' => e = .returned (.string ⟨#[]⟩) ∧ w' = w := by
  go_enter Try.func17, Try.ntmps17
  go_wp2
  go_ret
  exact ⟨rfl, rfl⟩

theorem bytes_small (a0 : ByteArray) (a1 a2 : Bool) (w0 : a0.size ≤ maxLen) (h : ¬ ((1048576 : Int) < (a0.size : Int))) (w : World) :
    Calls Try.prog 16 #[.string a0, .bool a1, .bool a2] w fun e w' => e = .returned (.bool true) ∧ w' = w := by
  unfold maxLen at w0
  go_enter Try.func16, Try.ntmps16
  go_wp2
  go_ret
  exact ⟨rfl, rfl⟩
theorem bytes_big (a0 : ByteArray) (a1 a2 : Bool) (w0 : a0.size ≤ maxLen) (h : (1048576 : Int) < (a0.size : Int)) (w : World) :
    Calls Try.prog 16 #[.string a0, .bool a1, .bool a2] w fun e w' => e = .returned (.bool false) ∧ w' = w := by
  unfold maxLen at w0
  go_enter Try.func16, Try.ntmps16
  go_wp2
  go_ret
  exact ⟨rfl, rfl⟩
/-! ### STEP 1: THE WALK: the Go text returns true. -/
set_option maxHeartbeats 400000 in
theorem walk (a0 : ByteArray) (a1 : Bool) (a2 : Bool) (w0 : a0.size ≤ maxLen) (w : World) :
    Calls Try.prog 6 #[.string a0, .bool a1, .bool a2] w fun e w' => e = .returned (.bool true) ∧ Grown w w' := by
  by_cases hb : (1048576 : Int) < (a0.size : Int)
  · go_enter Try.func6, Try.ntmps6
    go_wp2_with (go_at_call 16; refine (bytes_big _ _ _ w0 hb _).mono ?_; rintro e w' ⟨rfl, rfl⟩)
    go_ret
    exact ⟨rfl, Grown.refl _⟩
  cases a1
  · go_enter Try.func6, Try.ntmps6
    go_wp2_with (go_at_call 16; refine (bytes_small _ _ _ w0 hb _).mono ?_; rintro e w' ⟨rfl, rfl⟩)
    go_ret
    exact ⟨rfl, Grown.refl _⟩
  by_cases he : a0.toList.isEmpty = true
  · go_enter Try.func6, Try.ntmps6
    go_wp2_with (first | (go_at_call 16; refine (bytes_small _ _ _ w0 hb _).mono ?_; rintro e w' ⟨rfl, rfl⟩) | (go_at_call 17; refine (pres_empty _ _ _ he _).mono ?_; rintro e w' ⟨rfl, rfl⟩))
    go_ret
    exact ⟨rfl, Grown.refl _⟩
  have he' : a0.toList.isEmpty = false := by simpa using he
  cases a2
  · go_enter Try.func6, Try.ntmps6
    go_wp2_with (first | (go_at_call 16; refine (bytes_small _ _ _ w0 hb _).mono ?_; rintro e w' ⟨rfl, rfl⟩) | (go_at_call 17; refine (pres_keep _ he' _).mono ?_; rintro e w' ⟨rfl, rfl⟩))
    go_ret
    exact ⟨rfl, Grown.refl _⟩
  · go_enter Try.func6, Try.ntmps6
    go_wp2_with (first | (go_at_call 16; refine (bytes_small _ _ _ w0 hb _).mono ?_; rintro e w' ⟨rfl, rfl⟩) | (go_at_call 17; refine (pres_anon _ he' _).mono ?_; rintro e w' ⟨rfl, rfl⟩))
    go_ret
    exact ⟨rfl, Grown.refl _⟩

/-! ### THE ROW's STEP: WRITTEN OUT: LEAVE IT -/
set_option maxRecDepth 100000 in
theorem lifted (os : Os) (started : os.Started) (H : Type) (enc : TypeId × Value → H) :
    ReturnsInHanded {} Try.checked os 6 .any (Rows.fnPresentedFromNeverShowsWithheldSpec.pre6 enc Try.prog Try.f6 Rows.fnPresentedFromNeverShowsWithheldRow.domain false) (Rows.fnPresentedFromNeverShowsWithheldSpec.post enc Try.prog Try.f6 false true false false) := by
  refine returnsInHanded_of_change (C := Try.checked) own started (by kernel_rfl) Try.func6
    (ChangeSpec.witness6 (enc := enc) (C := Try.checked) false ⟨#[], #[.string ByteArray.empty, .bool false, .bool false], []⟩ 8 (by kernel_rfl) (by kernel_rfl) (by kernel_rfl) (by kernel_rfl)) ?_
  intro W base args ds gs before hval0 hW hcnd _
  have hval : ∀ (j : Nat) t v, Try.f6.params[j]? = some t → args[j]? = some v → Value.okWide Try.prog W .any base t v := hval0
  have hW' := hW
  obtain ⟨p, q, hA0, hV, rfl, hfz, hnd⟩ := hW
  have hA : DataW.TrodAll enc Try.prog W 0 (fun _ => true) true Try.f6.params.toList args.toList ds p := hA0
  rw [Try.params6] at hA hval
  obtain ⟨v0, vs0, d0, ds0, p0, q0, hargs, rfl, rfl, h0, r0⟩ := trodAll_cons hA
  obtain ⟨v1, vs1, d1, ds1, p1, q1, rfl, rfl, rfl, h1, r1⟩ := trodAll_cons r0
  obtain ⟨v2, vs2, d2, ds2, p2, q2, rfl, rfl, rfl, h2, r2⟩ := trodAll_cons r1
  obtain ⟨rfl, rfl, rfl⟩ := trodAll_nil r2
  obtain rfl : args = #[v0, v1, v2] := by cases args; simp_all
  obtain ⟨rfl, rfl⟩ := trodVars_none hV
  obtain ⟨a0, rfl, rfl, rfl, w0⟩ := open_string Try.underlying9 (hval 0 9 v0 rfl rfl) h0
  obtain ⟨a1, rfl, rfl, rfl⟩ := open_bool Try.underlying4 (hval 1 4 v1 rfl rfl) h1
  obtain ⟨a2, rfl, rfl, rfl⟩ := open_bool Try.underlying4 (hval 2 4 v2 rfl rfl) h2
  clear hA0 hval0
  simp only [List.append_nil] at hW'
  refine (walk a0 a1 a2 w0 W).mono fun e W' ⟨he, hg⟩ => ?_
  subst he
  exact ⟨_, rfl, post_of_same (pa := []) (pv := []) hW' (fun _ _ _ => (trodAll_cons_mk (shut_bool Try.underlying4 _) trodAll_mk0)) (fun sp _ => (trodAll_cons_mk (shut_string Try.underlying9 w0) (trodAll_cons_mk (shut_bool Try.underlying4 _) (trodAll_cons_mk (shut_bool Try.underlying4 _) trodAll_mk0)))) (fun _ _ => rfl) rfl
    (hg.frame _) hg.2.1 (ok_one (by kernel_rfl) rfl (okWide_bool_mk Try.underlying4 _))⟩

theorem over : Rows.fnPresentedFromNeverShowsWithheldRow.holds Try.pinned (OpenSpec.ofChange Rows.fnPresentedFromNeverShowsWithheldSpec) :=
  OpenClaim.holds_of_wide 6 Try.f6 rfl rfl rfl rfl rfl rfl rfl ⟨rfl, rfl, rfl, rfl, rfl⟩ rfl rfl rfl rfl rfl (by kernel_rfl) Try.func6 (by kernel_rfl)
    (of_decide_eq_true (by kernel_rfl)) (by unfold Func.isWrapper; first | (rw [if_pos (by decide +kernel)]; kernel_rfl) | (rw [if_neg (by decide +kernel)]; exact ⟨rfl, rfl⟩))
    (fun os started H enc _ => lifted os started H enc)

/-- ████ THE STATEMENT ████ -/
theorem proved : Rows.FnPresentedFromNeverShowsWithheldSaid :=
  over
end Go.Proofs.Qxb6601574a.fnPresentedFromNeverShowsWithheld
