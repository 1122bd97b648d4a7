/-
  The proof of 'Rows.FnAddThenCommonRecoversMoreSaid'. The frame: after the kit's shells; the rest: own work.
-/
import Derived.Test.Qxb6603895aMain
import Derived.SliceStrings
import Derived.WalkKit
import Derived.ProofKit
import Derived.OpenShut
import Derived.Carry
namespace Go.Proofs.Qxb6603895a.fnAddThenCommonRecoversMore
open Go.ChangeShapes Go.WideShapes Go.ChangeAt Go.RowKit
open Go.Proofs.Qxb6603895a
set_option linter.unusedVariables false
set_option linter.unusedSimpArgs false

theorem own : ownKnob Try.prog.godebug = none := by kernel_rfl
theorem cells9 : Try.prog.cellsOf 9 = 1 := by kernel_rfl
theorem laidOut' : laidOutB Try.prog = true := by kernel_rfl

theorem lt_of_cell {w : World} {a : Addr} {v : Value} (h : w.cell? a = some v) : a.block < w.heap.size := by
  rcases Nat.lt_or_ge a.block w.heap.size with hl | hge
  · exact hl
  · unfold World.cell? at h
    simp [Array.getElem?_eq_none hge] at h

theorem opened {H : Type} {enc : TypeId × Value → H} {W : World} {a0 : Option Addr} {len cap : Nat} {d : DataW H} {p : List MemPlace} (h : DataW.Trod enc Try.prog W 0 (fun _ => true) true 22 (.slice a0 len cap) d p) :
    ∃ l : List ByteArray, Rd W (.slice a0 len cap) l ∧ ∀ x ∈ l, x.size ≤ maxLen := by
  obtain ⟨fuel, hf0⟩ := h
  have hf : DataW.trod enc Try.prog W 0 (fun _ => true) true fuel 22 [.slice a0 len cap] = some (d, p) := by simpa [Value.cells] using hf0
  rcases open_strings Try.underlying22 Try.underlying9 cells9 hf with ⟨hcs, hx⟩ | ⟨a, len', cap', ss, hcs, _, hl, hm, hz, hx, hcell, hsz⟩
  · simp at hcs
    obtain ⟨rfl, rfl, rfl⟩ := hcs
    exact ⟨[], ⟨none, 0, rfl, Nat.zero_le _, fun k hk => absurd hk (Nat.not_lt_zero _)⟩, fun x hx => by simp at hx⟩
  · simp at hcs
    obtain ⟨rfl, rfl, rfl⟩ := hcs
    simp only [if_true] at hz
    have hlen : (ss.take len).length = len := by simp; omega
    obtain ⟨b, off, spot⟩ := a
    refine ⟨ss.take len, ⟨_, cap, by rw [hlen], by omega, fun k hk => ?_⟩, fun x hx => hsz x (List.mem_of_mem_take hx)⟩
    have hk' : k < ss.length := by omega
    have hc := hcell k hk'
    have hspot : spot = none := by simpa [Addr.add] using World.cell?_spot (hcell 0 (by omega))
    subst hspot
    have e : ((⟨b, off, none⟩ : Addr).add k) = ⟨b, off + k, none⟩ := by unfold Addr.add; split <;> simp_all
    have hlt := lt_of_cell hc
    rw [e] at hc hlt
    refine ⟨b, off, rfl, hlt, ?_⟩
    rw [hc]
    simp [List.getD, List.getElem?_eq_getElem hk']

set_option maxRecDepth 100000 in
theorem lifted (os : Os) (started : os.Started) (H : Type) (enc : TypeId × Value → H) :
    ReturnsInHanded {} Try.checked os 3 .any (Rows.fnAddThenCommonRecoversMoreSpec.pre6 enc Try.prog Try.f3 Rows.fnAddThenCommonRecoversMoreRow.domain false) (Rows.fnAddThenCommonRecoversMoreSpec.post enc Try.prog Try.f3 false true false false) := by
  refine returnsInHanded_of_change (C := Try.checked) own started (by kernel_rfl) Try.func3
    (ChangeSpec.witness6 (enc := enc) (C := Try.checked) false ⟨#[], #[.slice none 0 0, .slice none 0 0], []⟩ 8 (by kernel_rfl) (by kernel_rfl) (by kernel_rfl) (by kernel_rfl)) ?_
  intro W base args ds gs before hval0 hW hcnd _
  have hval : ∀ (j : Nat) t v, Try.f3.params[j]? = some t → args[j]? = some v → Value.okWide Try.prog W .any base t v := hval0
  have hW' := hW
  obtain ⟨p, q, hA0, hV, rfl, hfz, hnd⟩ := hW
  have hA : DataW.TrodAll enc Try.prog W 0 (fun _ => true) true Try.f3.params.toList args.toList ds p := hA0
  rw [Try.params3] at hA hval
  obtain ⟨v0, v1, d0, d1, p0, p1, rfl, rfl, rfl, h0, h1⟩ := trodAll_two hA
  obtain ⟨rfl, rfl⟩ := trodVars_none hV
  obtain ⟨a0, n0, c0, rfl⟩ := okWide_slice Try.underlying22 (hval 0 22 v0 rfl rfl)
  obtain ⟨a1, n1, c1, rfl⟩ := okWide_slice Try.underlying22 (hval 1 22 v1 rfl rfl)
  clear hA0 hval0
  have hlt0 : ∀ x ∈ p0, x.block < W.heap.size := fun x hx => hW'.lt x (by simp [hx])
  have hlt1 : ∀ x ∈ p1, x.block < W.heap.size := fun x hx => hW'.lt x (by simp [hx])
  obtain ⟨l0, r0, z0⟩ := opened h0
  obtain ⟨l1, r1, z1⟩ := opened h1
  refine (walk3 r0 r1 z0 z1).mono fun e W' ⟨he, bel⟩ => ?_
  subst he
  exact ⟨_, rfl, _, _, _, [], _, [], hW', trodAll_mk1 (shut_bool Try.underlying4 _), trodAll_mk2 (Below.trod laidOut' (by kernel_rfl) (of_decide_eq_true (by kernel_rfl)) h0 bel hlt0) (Below.trod laidOut' (by kernel_rfl) (of_decide_eq_true (by kernel_rfl)) h1 bel hlt1), rfl, bel.frame _, fun h => by cases h⟩

theorem over : Rows.fnAddThenCommonRecoversMoreRow.holds Try.pinned (OpenSpec.ofChange Rows.fnAddThenCommonRecoversMoreSpec) :=
  OpenClaim.holds_of_wide 3 Try.f3 rfl rfl rfl rfl rfl rfl rfl ⟨rfl, rfl, rfl, rfl, rfl⟩ rfl rfl rfl rfl rfl (by kernel_rfl) Try.func3 (by kernel_rfl)
    (of_decide_eq_true (by kernel_rfl)) (by unfold Func.isWrapper; first | (rw [if_pos (by decide +kernel)]; kernel_rfl) | (rw [if_neg (by decide +kernel)]; exact ⟨rfl, rfl⟩))
    (fun os started H enc _ => lifted os started H enc)

/-- ████ THE STATEMENT ████ -/
theorem proved : Rows.FnAddThenCommonRecoversMoreSaid :=
  over
end Go.Proofs.Qxb6603895a.fnAddThenCommonRecoversMore
