/-
  No cell of these rows narrows 'for every input' (looked for: loops, veiled, ifaces, maps, wideKeys, modest, calm, conditions, laid).
  DERIVED. THE GIVEN ROWS OF THIS SEAT. 3 by the template 'for every input the law returns true; each argument reads behind the call as it read before'; 0 by the template 'total and deterministic' (their statements: Qxb6601023aTotals.lean).
  GIVEN WITH THE SEED: the statements are not yours to turn. If you find one false, say at which input.
  Laid BY PROGRAM, IN A SANDBOX (cutbox-rows.mjs): the forced cells as the released guide's own fill.sh prints them over the translation 6b3b9037ef4a0fb8… (all of the seat's roots in one cut). By AI agents, Wed Nov 11 2026. No macro, syntax, notation, axiom, sorry.
-/
import Derived.Test.Qxb6601023aChecked
import GoSem.Claim
import GoSem.ClaimJoined
import GoSem.ClaimMapViews
import Derived.JoinedTies
import Derived.KernelRfl
namespace Go.Proofs.Qxb6601023a
/- THE CELL 'sum', in the pinned program and in every row, IS THE sha256 OF THE DUMP (.gsa) THAT Qxb6601023aProg.lean LOADS. Nothing in Lean hashes anything: it is a label: what it is worth is what the hold of that sum in a sandbox is worth. -/
noncomputable def Try.pinned : Pinned := { name := "qxb6601023a", sum := "6b3b9037ef4a0fb8eb739b9796421734e9c8f5b3fbe8c7e755309d5ec6851c5b", checked := Try.checked }
namespace Rows
def none {H : Type} : Left H := { results := [], args := [] }

/-- 'zzlaws_internal_rulebook_b1.FnRulebookFormCaseTable': WHATEVER THE INPUT: true; the input reads as it did. -/
def fnRulebookFormCaseTableSpec : ChangeSpec := { name := "fnRulebookFormCaseTable", fn := fun _ => fun
  | [d] => { results := [.lit (.bool true)], args := [d] }
  | _ => none }
def fnRulebookFormCaseTableRow : OpenClaim := { program := "qxb6601023a", sum := "6b3b9037ef4a0fb8eb739b9796421734e9c8f5b3fbe8c7e755309d5ec6851c5b", func := "example.com/rostrum/rostrum/zzlaws_internal_rulebook_b1.FnRulebookFormCaseTable", spec := "fnRulebookFormCaseTable", unfollowed := true, recurses := true, apart := false }
def FnRulebookFormCaseTableSaid : Prop := fnRulebookFormCaseTableRow.holds Try.pinned (OpenSpec.ofChange fnRulebookFormCaseTableSpec)

/-- ITS FALSE NEIGHBOUR: 'it returns false'. Refute it at one input. -/
def fnRulebookFormCaseTableWrong : ChangeSpec := { name := "fnRulebookFormCaseTable", fn := fun _ => fun
  | [d] => { results := [.lit (.bool false)], args := [d] }
  | _ => none }
def FnRulebookFormCaseTableWrongFalsely : Prop := fnRulebookFormCaseTableRow.holds Try.pinned (OpenSpec.ofChange fnRulebookFormCaseTableWrong)

/-- 'zzlaws_internal_rulebook_b1.FnRulebookFormWellFormed': WHATEVER THE INPUT: true; the input reads as it did. -/
def fnRulebookFormWellFormedSpec : ChangeSpec := { name := "fnRulebookFormWellFormed", fn := fun _ => fun
  | [d] => { results := [.lit (.bool true)], args := [d] }
  | _ => none }
def fnRulebookFormWellFormedRow : OpenClaim := { program := "qxb6601023a", sum := "6b3b9037ef4a0fb8eb739b9796421734e9c8f5b3fbe8c7e755309d5ec6851c5b", func := "example.com/rostrum/rostrum/zzlaws_internal_rulebook_b1.FnRulebookFormWellFormed", spec := "fnRulebookFormWellFormed", unfollowed := true, recurses := true, apart := false }
def FnRulebookFormWellFormedSaid : Prop := fnRulebookFormWellFormedRow.holds Try.pinned (OpenSpec.ofChange fnRulebookFormWellFormedSpec)

/-- ITS FALSE NEIGHBOUR: 'it returns false'. Refute it at one input. -/
def fnRulebookFormWellFormedWrong : ChangeSpec := { name := "fnRulebookFormWellFormed", fn := fun _ => fun
  | [d] => { results := [.lit (.bool false)], args := [d] }
  | _ => none }
def FnRulebookFormWellFormedWrongFalsely : Prop := fnRulebookFormWellFormedRow.holds Try.pinned (OpenSpec.ofChange fnRulebookFormWellFormedWrong)

/-- 'zzlaws_internal_rulebook_b1.FnNamesReturnsAFreshList': WHATEVER THE INPUT: true; the input reads as it did. -/
def fnNamesReturnsAFreshListSpec : ChangeSpec := { name := "fnNamesReturnsAFreshList", fn := fun _ => fun
  | [d1, d2, d3] => { results := [.lit (.bool true)], args := [d1, d2, d3] }
  | _ => none }
def fnNamesReturnsAFreshListRow : OpenClaim := { program := "qxb6601023a", sum := "6b3b9037ef4a0fb8eb739b9796421734e9c8f5b3fbe8c7e755309d5ec6851c5b", func := "example.com/rostrum/rostrum/zzlaws_internal_rulebook_b1.FnNamesReturnsAFreshList", spec := "fnNamesReturnsAFreshList", apart := false }
def FnNamesReturnsAFreshListSaid : Prop := fnNamesReturnsAFreshListRow.holds Try.pinned (OpenSpec.ofChange fnNamesReturnsAFreshListSpec)

/-- ITS FALSE NEIGHBOUR: 'it returns false'. Refute it at one input. -/
def fnNamesReturnsAFreshListWrong : ChangeSpec := { name := "fnNamesReturnsAFreshList", fn := fun _ => fun
  | [d1, d2, d3] => { results := [.lit (.bool false)], args := [d1, d2, d3] }
  | _ => none }
def FnNamesReturnsAFreshListWrongFalsely : Prop := fnNamesReturnsAFreshListRow.holds Try.pinned (OpenSpec.ofChange fnNamesReturnsAFreshListWrong)

end Rows
end Go.Proofs.Qxb6601023a
