/-
  No cell of these rows narrows 'for every input' (looked for: loops, veiled, ifaces, maps, wideKeys, modest, calm, conditions, laid).
  DERIVED. THE GIVEN ROWS OF THIS SEAT. 3 by the template 'for every input the law returns true; each argument reads behind the call as it read before'; 0 by the template 'total and deterministic' (their statements: Qxb6603895aTotals.lean).
  GIVEN WITH THE SEED: the statements are not yours to turn. If you find one false, say at which input.
  Laid BY PROGRAM, IN A SANDBOX (cutbox-rows.mjs): the forced cells as the released guide's own fill.sh prints them over the translation 3ed82c49361bf431… (all of the seat's roots in one cut). By AI agents, Wed Nov 11 2026. No macro, syntax, notation, axiom, sorry.
-/
import Derived.Test.Qxb6603895aChecked
import GoSem.Claim
import GoSem.ClaimJoined
import GoSem.ClaimMapViews
import Derived.JoinedTies
import Derived.KernelRfl
namespace Go.Proofs.Qxb6603895a
/- THE CELL 'sum', in the pinned program and in every row, IS THE sha256 OF THE DUMP (.gsa) THAT Qxb6603895aProg.lean LOADS. Nothing in Lean hashes anything: it is a label: what it is worth is what the hold of that sum in a sandbox is worth. -/
noncomputable def Try.pinned : Pinned := { name := "qxb6603895a", sum := "3ed82c49361bf4311eab54166790d285ab5fb32de486353ae43af3ea60b29d3d", checked := Try.checked }
namespace Rows
def none {H : Type} : Left H := { results := [], args := [] }

/-- 'zzlaws_authentication_b1.FnAddThenCommonRecoversMore': WHATEVER THE INPUT: true; the input reads as it did. -/
def fnAddThenCommonRecoversMoreSpec : ChangeSpec := { name := "fnAddThenCommonRecoversMore", fn := fun _ => fun
  | [d1, d2] => { results := [.lit (.bool true)], args := [d1, d2] }
  | _ => none }
def fnAddThenCommonRecoversMoreRow : OpenClaim := { program := "qxb6603895a", sum := "3ed82c49361bf4311eab54166790d285ab5fb32de486353ae43af3ea60b29d3d", func := "example.com/portcullis/portcullis/zzlaws_authentication_b1.FnAddThenCommonRecoversMore", spec := "fnAddThenCommonRecoversMore", apart := false }
def FnAddThenCommonRecoversMoreSaid : Prop := fnAddThenCommonRecoversMoreRow.holds Try.pinned (OpenSpec.ofChange fnAddThenCommonRecoversMoreSpec)

/-- ITS FALSE NEIGHBOUR: 'it returns false'. Refute it at one input. -/
def fnAddThenCommonRecoversMoreWrong : ChangeSpec := { name := "fnAddThenCommonRecoversMore", fn := fun _ => fun
  | [d1, d2] => { results := [.lit (.bool false)], args := [d1, d2] }
  | _ => none }
def FnAddThenCommonRecoversMoreWrongFalsely : Prop := fnAddThenCommonRecoversMoreRow.holds Try.pinned (OpenSpec.ofChange fnAddThenCommonRecoversMoreWrong)

/-- 'zzlaws_authentication_b1.FnWithAuthenticatedGroupMatchesModel': WHATEVER THE INPUT: true; the input reads as it did. -/
def fnWithAuthenticatedGroupMatchesModelSpec : ChangeSpec := { name := "fnWithAuthenticatedGroupMatchesModel", fn := fun _ => fun
  | [d1, d2, d3, d4, d5, d6, d7] => { results := [.lit (.bool true)], args := [d1, d2, d3, d4, d5, d6, d7] }
  | _ => none }
def fnWithAuthenticatedGroupMatchesModelRow : OpenClaim := { program := "qxb6603895a", sum := "3ed82c49361bf4311eab54166790d285ab5fb32de486353ae43af3ea60b29d3d", func := "example.com/portcullis/portcullis/zzlaws_authentication_b1.FnWithAuthenticatedGroupMatchesModel", spec := "fnWithAuthenticatedGroupMatchesModel", apart := false }
def FnWithAuthenticatedGroupMatchesModelSaid : Prop := fnWithAuthenticatedGroupMatchesModelRow.holds Try.pinned (OpenSpec.ofChange fnWithAuthenticatedGroupMatchesModelSpec)

/-- ITS FALSE NEIGHBOUR: 'it returns false'. Refute it at one input. -/
def fnWithAuthenticatedGroupMatchesModelWrong : ChangeSpec := { name := "fnWithAuthenticatedGroupMatchesModel", fn := fun _ => fun
  | [d1, d2, d3, d4, d5, d6, d7] => { results := [.lit (.bool false)], args := [d1, d2, d3, d4, d5, d6, d7] }
  | _ => none }
def FnWithAuthenticatedGroupMatchesModelWrongFalsely : Prop := fnWithAuthenticatedGroupMatchesModelRow.holds Try.pinned (OpenSpec.ofChange fnWithAuthenticatedGroupMatchesModelWrong)

/-- 'zzlaws_authentication_b1.FnWithAuthenticatedGroupIdempotent': WHATEVER THE INPUT: true; the input reads as it did. -/
def fnWithAuthenticatedGroupIdempotentSpec : ChangeSpec := { name := "fnWithAuthenticatedGroupIdempotent", fn := fun _ => fun
  | [d1, d2, d3] => { results := [.lit (.bool true)], args := [d1, d2, d3] }
  | _ => none }
def fnWithAuthenticatedGroupIdempotentRow : OpenClaim := { program := "qxb6603895a", sum := "3ed82c49361bf4311eab54166790d285ab5fb32de486353ae43af3ea60b29d3d", func := "example.com/portcullis/portcullis/zzlaws_authentication_b1.FnWithAuthenticatedGroupIdempotent", spec := "fnWithAuthenticatedGroupIdempotent", apart := false }
def FnWithAuthenticatedGroupIdempotentSaid : Prop := fnWithAuthenticatedGroupIdempotentRow.holds Try.pinned (OpenSpec.ofChange fnWithAuthenticatedGroupIdempotentSpec)

/-- ITS FALSE NEIGHBOUR: 'it returns false'. Refute it at one input. -/
def fnWithAuthenticatedGroupIdempotentWrong : ChangeSpec := { name := "fnWithAuthenticatedGroupIdempotent", fn := fun _ => fun
  | [d1, d2, d3] => { results := [.lit (.bool false)], args := [d1, d2, d3] }
  | _ => none }
def FnWithAuthenticatedGroupIdempotentWrongFalsely : Prop := fnWithAuthenticatedGroupIdempotentRow.holds Try.pinned (OpenSpec.ofChange fnWithAuthenticatedGroupIdempotentWrong)

end Rows
end Go.Proofs.Qxb6603895a
