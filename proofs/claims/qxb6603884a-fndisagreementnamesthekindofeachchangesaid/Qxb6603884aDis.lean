/-
  OWN WORK. disagreement, ZZDisagreement.
-/
import Derived.Test.Qxb6603884aCopy
namespace Go.Proofs.Qxb6603884a
open Go Go.RowKit
set_option linter.unusedVariables false
set_option linter.unusedSimpArgs false
attribute [local go_sem] run_eql31

def mMissing : ByteArray := { data := #[105, 115, 32, 109, 105, 115, 115, 105, 110, 103] }
def mNoFile : ByteArray := { data := #[105, 115, 32, 110, 111, 32, 102, 105, 108, 101, 32, 111, 102, 32, 97, 32, 112, 97, 99, 107, 97, 103, 101, 32, 119, 105, 116, 104, 32, 97, 32, 112, 117, 98, 108, 105, 115, 104, 101, 100, 32, 114, 101, 108, 101, 97, 115, 101] }
def mOther : ByteArray := { data := #[100, 111, 101, 115, 32, 110, 111, 116, 32, 104, 111, 108, 100, 32, 119, 104, 97, 116, 32, 116, 104, 101, 32, 109, 101, 116, 97, 100, 97, 116, 97, 32, 115, 97, 121, 115] }
def msg (h : Bool) (a : Option Addr) : ByteArray := if h then (if a.isNone then mNoFile else mOther) else mMissing

set_option maxRecDepth 100000 in
set_option maxHeartbeats 1000000 in
theorem dis14 {w : World} {m : Value} {D : DataW Value} {p : ByteArray} {a : Option Addr} {n c : Nat} (hm : Mp w m D) (hp : p.size ≤ maxLen) : Calls Try.prog 14 #[.agg #[.string p, .slice a n c], m] w fun e w' => e = .returned (.string (msg (has D p) a)) ∧ Below w.heap.size w w' := by
  have hb : Below w.heap.size w (w.alloc (.cells #[.string p, .slice a n c] 39)) := (Below.refl _ _).alloc (Nat.le_refl _) _
  have hlook := (hm.below hb).look_ok hp
  have HB := hide hb
  clear hm hb
  generalize has D p = h at *
  generalize val D p = vv at *
  cases h with
  | false =>
    go_enter Try.func14, Try.ntmps14
    go_wp2_with fail
    go_ret
    exact ⟨rfl, unhide HB⟩
  | true =>
    cases a with
    | none =>
      go_enter Try.func14, Try.ntmps14
      go_wp2_with fail
      go_ret
      exact ⟨rfl, unhide HB⟩
    | some a =>
      go_enter Try.func14, Try.ntmps14
      go_wp2_with fail
      go_ret
      exact ⟨rfl, unhide HB⟩

set_option maxRecDepth 100000 in
theorem dis12 {w : World} {m : Value} {D : DataW Value} {p : ByteArray} {a : Option Addr} {n c : Nat} (hm : Mp w m D) (hp : p.size ≤ maxLen) : Calls Try.prog 12 #[.string p, .slice a n c, m] w fun e w' => e = .returned (.string (msg (has D p) a)) ∧ Below w.heap.size w w' := by
  have HC := hide (dis14 (a := a) (n := n) (c := c) hm hp)
  clear hm
  generalize msg (has D p) a = r at *
  go_enter Try.func12, Try.ntmps12
  go_wp2_with fail
  refine (unhide HC).mono ?_
  rintro e w1 ⟨rfl, hb⟩
  have HB := hide hb
  clear hb
  go_wp2_with fail
  go_ret
  exact ⟨rfl, unhide HB⟩
end Go.Proofs.Qxb6603884a
