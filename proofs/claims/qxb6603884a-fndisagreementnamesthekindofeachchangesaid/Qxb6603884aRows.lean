/-
  NARROWER THAN 'FOR EVERY INPUT', by the rows' own cells (each row's printed sentence says how): FnDifferencesIsTheMergeOfBothSets: maps · FnDifferencesAppliedTurnsHaveIntoWant: maps · FnDisagreementNamesTheKindOfEachChange: maps.
  DERIVED. THE GIVEN ROWS OF THIS SEAT. 3 by the template 'for every input the law returns true; each argument reads behind the call as it read before'; 0 by the template 'total and deterministic' (their statements: Qxb6603884aTotals.lean).
  GIVEN WITH THE SEED: the statements are not yours to turn. If you find one false, say at which input.
  Laid BY PROGRAM, IN A SANDBOX (cutbox-rows.mjs): the forced cells as the released guide's own fill.sh prints them over the translation 9a46199bc766ce5f… (all of the seat's roots in one cut). By AI agents, Wed Nov 11 2026. No macro, syntax, notation, axiom, sorry.
-/
import Derived.Test.Qxb6603884aChecked
import GoSem.Claim
import GoSem.ClaimJoined
import GoSem.ClaimMapViews
import Derived.JoinedTies
import Derived.KernelRfl
namespace Go.Proofs.Qxb6603884a
/- THE CELL 'sum', in the pinned program and in every row, IS THE sha256 OF THE DUMP (.gsa) THAT Qxb6603884aProg.lean LOADS. Nothing in Lean hashes anything: it is a label: what it is worth is what the hold of that sum in a sandbox is worth. -/
noncomputable def Try.pinned : Pinned := { name := "qxb6603884a", sum := "9a46199bc766ce5f71e5b3a64571552bd9e493b2fc6ec4aab5153a78be39145f", checked := Try.checked }
namespace Rows
def none {H : Type} : Left H := { results := [], args := [] }

/-- 'zzlaws_internal_manifestindex_b1.FnDifferencesIsTheMergeOfBothSets': WHATEVER THE INPUT: true; the input reads as it did. -/
def fnDifferencesIsTheMergeOfBothSetsSpec : ChangeSpec := { name := "fnDifferencesIsTheMergeOfBothSets", fn := fun _ => fun
  | [d1, d2] => { results := [.lit (.bool true)], args := [d1, d2] }
  | _ => none }
def fnDifferencesIsTheMergeOfBothSetsRow : OpenClaim := { program := "qxb6603884a", sum := "9a46199bc766ce5f71e5b3a64571552bd9e493b2fc6ec4aab5153a78be39145f", func := "example.com/shelfmark/shelfmark/zzlaws_internal_manifestindex_b1.FnDifferencesIsTheMergeOfBothSets", spec := "fnDifferencesIsTheMergeOfBothSets", inPlace := ["internal/bytealg.abigen_runtime_cmpstring"], unfollowed := true, recurses := true, maps := true, apart := false }
def FnDifferencesIsTheMergeOfBothSetsSaid : Prop := fnDifferencesIsTheMergeOfBothSetsRow.holds Try.pinned (OpenSpec.ofChange fnDifferencesIsTheMergeOfBothSetsSpec)

/-- ITS FALSE NEIGHBOUR: 'it returns false'. Refute it at one input. -/
def fnDifferencesIsTheMergeOfBothSetsWrong : ChangeSpec := { name := "fnDifferencesIsTheMergeOfBothSets", fn := fun _ => fun
  | [d1, d2] => { results := [.lit (.bool false)], args := [d1, d2] }
  | _ => none }
def FnDifferencesIsTheMergeOfBothSetsWrongFalsely : Prop := fnDifferencesIsTheMergeOfBothSetsRow.holds Try.pinned (OpenSpec.ofChange fnDifferencesIsTheMergeOfBothSetsWrong)

/-- 'zzlaws_internal_manifestindex_b1.FnDifferencesAppliedTurnsHaveIntoWant': WHATEVER THE INPUT: true; the input reads as it did. -/
def fnDifferencesAppliedTurnsHaveIntoWantSpec : ChangeSpec := { name := "fnDifferencesAppliedTurnsHaveIntoWant", fn := fun _ => fun
  | [d1, d2] => { results := [.lit (.bool true)], args := [d1, d2] }
  | _ => none }
def fnDifferencesAppliedTurnsHaveIntoWantRow : OpenClaim := { program := "qxb6603884a", sum := "9a46199bc766ce5f71e5b3a64571552bd9e493b2fc6ec4aab5153a78be39145f", func := "example.com/shelfmark/shelfmark/zzlaws_internal_manifestindex_b1.FnDifferencesAppliedTurnsHaveIntoWant", spec := "fnDifferencesAppliedTurnsHaveIntoWant", inPlace := ["internal/bytealg.abigen_runtime_cmpstring"], unfollowed := true, recurses := true, maps := true, apart := false }
def FnDifferencesAppliedTurnsHaveIntoWantSaid : Prop := fnDifferencesAppliedTurnsHaveIntoWantRow.holds Try.pinned (OpenSpec.ofChange fnDifferencesAppliedTurnsHaveIntoWantSpec)

/-- ITS FALSE NEIGHBOUR: 'it returns false'. Refute it at one input. -/
def fnDifferencesAppliedTurnsHaveIntoWantWrong : ChangeSpec := { name := "fnDifferencesAppliedTurnsHaveIntoWant", fn := fun _ => fun
  | [d1, d2] => { results := [.lit (.bool false)], args := [d1, d2] }
  | _ => none }
def FnDifferencesAppliedTurnsHaveIntoWantWrongFalsely : Prop := fnDifferencesAppliedTurnsHaveIntoWantRow.holds Try.pinned (OpenSpec.ofChange fnDifferencesAppliedTurnsHaveIntoWantWrong)

/-- 'zzlaws_internal_manifestindex_b1.FnDisagreementNamesTheKindOfEachChange': WHATEVER THE INPUT: true; the input reads as it did. -/
def fnDisagreementNamesTheKindOfEachChangeSpec : ChangeSpec := { name := "fnDisagreementNamesTheKindOfEachChange", fn := fun _ => fun
  | [d1, d2] => { results := [.lit (.bool true)], args := [d1, d2] }
  | _ => none }
def fnDisagreementNamesTheKindOfEachChangeRow : OpenClaim := { program := "qxb6603884a", sum := "9a46199bc766ce5f71e5b3a64571552bd9e493b2fc6ec4aab5153a78be39145f", func := "example.com/shelfmark/shelfmark/zzlaws_internal_manifestindex_b1.FnDisagreementNamesTheKindOfEachChange", spec := "fnDisagreementNamesTheKindOfEachChange", inPlace := ["internal/bytealg.abigen_runtime_cmpstring"], unfollowed := true, recurses := true, maps := true, apart := false }
def FnDisagreementNamesTheKindOfEachChangeSaid : Prop := fnDisagreementNamesTheKindOfEachChangeRow.holds Try.pinned (OpenSpec.ofChange fnDisagreementNamesTheKindOfEachChangeSpec)

/-- ITS FALSE NEIGHBOUR: 'it returns false'. Refute it at one input. -/
def fnDisagreementNamesTheKindOfEachChangeWrong : ChangeSpec := { name := "fnDisagreementNamesTheKindOfEachChange", fn := fun _ => fun
  | [d1, d2] => { results := [.lit (.bool false)], args := [d1, d2] }
  | _ => none }
def FnDisagreementNamesTheKindOfEachChangeWrongFalsely : Prop := fnDisagreementNamesTheKindOfEachChangeRow.holds Try.pinned (OpenSpec.ofChange fnDisagreementNamesTheKindOfEachChangeWrong)

end Rows
end Go.Proofs.Qxb6603884a
