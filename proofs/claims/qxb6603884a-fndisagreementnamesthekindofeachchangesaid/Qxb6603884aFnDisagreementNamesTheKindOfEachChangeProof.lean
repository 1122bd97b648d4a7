/-
  The proof of 'Rows.FnDisagreementNamesTheKindOfEachChangeSaid'. The frame: after the kit's shells; the rest: own work.
-/
import Derived.Test.Qxb6603884aMain
import Derived.Test.Qxb6603884aSrt
import Derived.WalkKit
import Derived.ProofKit
import Derived.OpenShut
import Derived.Carry
namespace Go.Proofs.Qxb6603884a.fnDisagreementNamesTheKindOfEachChange
open Go.ChangeShapes Go.WideShapes Go.ChangeAt Go.RowKit
open Go.Proofs.Qxb6603884a
open Go.WideElems (Fit rd rg elemAt rd_key rd_val rg_of)
set_option linter.unusedVariables false
set_option linter.unusedSimpArgs false

theorem own : ownKnob Try.prog.godebug = none := by kernel_rfl
theorem cells5 : Try.prog.cellsOf 5 = 1 := by kernel_rfl
theorem laidOut' : laidOutB Try.prog = true := by kernel_rfl

theorem lt_of_cell {w : World} {a : Addr} {v : Value} (h : w.cell? a = some v) : a.block < w.heap.size := by
  rcases Nat.lt_or_ge a.block w.heap.size with hl | hge
  · exact hl
  · unfold World.cell? at h
    simp [Array.getElem?_eq_none hge] at h

/-- An element of a map that came in is a slice of bytes that can be read. -/
theorem bs_of_elem {H : Type} {enc : TypeId × Value → H} {W : World} {n : Nat} {v : Value} {z : DataW H × List MemPlace} (h : elemAt enc Try.prog W 0 (fun _ => true) true n 31 v = some z) : Bs W v := by
  unfold elemAt at h
  split at h
  case isFalse => cases h
  case isTrue hf =>
    have hv : v.cells.toList = [v] := by
      cases v <;> simp [Value.formed, Try.underlying31] at hf <;> rfl
    rw [hv] at h
    rcases open_ints Try.underlying31 Try.underlying5 cells5 h with ⟨hcs, _⟩ | ⟨a, len, cap, zs, hcs, _, hl, hm, hz, _, hcell, _⟩
    · cases hcs
      exact bs_nil W
    · cases hcs
      simp only [if_true] at hz
      refine ⟨_, len, cap, rfl, by omega, fun k hk => ?_⟩
      obtain ⟨b, off, spot⟩ := a
      have hspot : spot = none := by simpa [Addr.add] using World.cell?_spot (hcell 0 (by omega))
      subst hspot
      have hc := hcell k (by omega)
      have e : ((⟨b, off, none⟩ : Addr).add k) = ⟨b, off + k, none⟩ := by unfold Addr.add; split <;> simp_all
      rw [e] at hc
      exact ⟨b, off, rfl, lt_of_cell hc, _, hc⟩

theorem slice_of_bs {W : World} {v : Value} (h : Bs W v) : rdr v = some (.held v, []) := by
  obtain ⟨a, n, c, rfl, _⟩ := h
  rfl

theorem opened {H : Type} {enc : TypeId × Value → H} {W : World} {m : Option Nat} {d : DataW H} {p : List MemPlace} (h : DataW.Trod enc Try.prog W 0 (fun _ => true) true 22 (.map m) d p) : ∃ D, Mv W (.map m) D := by
  obtain ⟨fuel, hf0⟩ := h
  have hf : DataW.trod enc Try.prog W 0 (fun _ => true) true fuel 22 [.map m] = some (d, p) := by simpa [Value.cells] using hf0
  rcases WideElems.open_map Try.underlying22 hf with ⟨hcs, _⟩ | ⟨b, es, clock, n, _, hcs, hb, _, F, _⟩
  · cases hcs
    exact ⟨_, mv_nil W⟩
  · cases hcs
    have hbs : ∀ x ∈ es.toList, Bs W x.val := fun x hx => by
      obtain ⟨y, hy⟩ := F.reads x hx
      obtain ⟨z, hz, _⟩ := rd_val hy
      exact bs_of_elem hz
    have hrd : ∀ x ∈ es.toList, ∃ k, rd Try.prog 9 rdr x = some (k, .held x.val) := fun x hx => by
      obtain ⟨y, hy⟩ := F.reads x hx
      refine ⟨y.1, ?_⟩
      unfold rd
      rw [rd_key hy, slice_of_bs (hbs x hx)]
      rfl
    have F2 : Fit Try.prog 9 rdr es clock := ⟨F.size, F.stamped, fun x hx => by
      obtain ⟨kl, hk⟩ := hrd x hx
      exact ⟨_, hk⟩⟩
    refine ⟨_, .inr ⟨b, es.size, rfl, es, clock, hb, F2, Nat.le_refl _, rfl⟩, fun k => ?_⟩
    unfold val DataW.atKey
    split
    · split
      · rename_i q hq
        have hm := List.mem_of_find?_eq_some hq
        rename_i entries he _
        cases he
        obtain ⟨x, hx, hxe⟩ := List.mem_map.1 (mem_sorted.1 hm)
        obtain ⟨kl, hk⟩ := hrd x hx
        rw [rg_of hk] at hxe
        rw [← hxe]
        exact hbs x hx
      · exact bs_nil W
    · rename_i hne
      exact (hne _ rfl).elim

set_option maxRecDepth 100000 in
theorem lifted (os : Os) (started : os.Started) (H : Type) (enc : TypeId × Value → H) :
    ReturnsInHanded {} Try.checked os 5 .any (Rows.fnDisagreementNamesTheKindOfEachChangeSpec.pre6 enc Try.prog Try.f5 Rows.fnDisagreementNamesTheKindOfEachChangeRow.domain false) (Rows.fnDisagreementNamesTheKindOfEachChangeSpec.post enc Try.prog Try.f5 false true false false) := by
  refine returnsInHanded_of_change (C := Try.checked) own started (by kernel_rfl) Try.func5
    (ChangeSpec.witness6 (enc := enc) (C := Try.checked) false ⟨#[], #[.map none, .map none], []⟩ 8 (by kernel_rfl) (by kernel_rfl) (by kernel_rfl) (by kernel_rfl)) ?_
  intro W base args ds gs before hval0 hW hcnd _
  have hval : ∀ (j : Nat) t v, Try.f5.params[j]? = some t → args[j]? = some v → Value.okWide Try.prog W .any base t v := hval0
  have hW' := hW
  obtain ⟨p, q, hA0, hV, rfl, hfz, hnd⟩ := hW
  have hA : DataW.TrodAll enc Try.prog W 0 (fun _ => true) true Try.f5.params.toList args.toList ds p := hA0
  rw [Try.params5] at hA hval
  obtain ⟨v0, v1, d0, d1, p0, p1, rfl, rfl, rfl, h0, h1⟩ := trodAll_two hA
  obtain ⟨rfl, rfl⟩ := trodVars_none hV
  obtain ⟨m0, rfl⟩ := okWide_map Try.underlying22 (hval 0 22 v0 rfl rfl)
  obtain ⟨m1, rfl⟩ := okWide_map Try.underlying22 (hval 1 22 v1 rfl rfl)
  clear hA0 hval0
  have hlt0 : ∀ x ∈ p0, x.block < W.heap.size := fun x hx => hW'.lt x (by simp [hx])
  have hlt1 : ∀ x ∈ p1, x.block < W.heap.size := fun x hx => hW'.lt x (by simp [hx])
  obtain ⟨D0, r0⟩ := opened h0
  obtain ⟨D1, r1⟩ := opened h1
  refine (walk5 sort16 r0 r1).mono fun e W' ⟨he, bel⟩ => ?_
  subst he
  exact ⟨_, rfl, _, _, _, [], _, [], hW', trodAll_mk1 (shut_bool Try.underlying4 _), trodAll_mk2 (Below.trod laidOut' (by kernel_rfl) (of_decide_eq_true (by kernel_rfl)) h0 bel hlt0) (Below.trod laidOut' (by kernel_rfl) (of_decide_eq_true (by kernel_rfl)) h1 bel hlt1), rfl, bel.frame _, fun h => by cases h⟩

theorem over : Rows.fnDisagreementNamesTheKindOfEachChangeRow.holds Try.pinned (OpenSpec.ofChange Rows.fnDisagreementNamesTheKindOfEachChangeSpec) :=
  OpenClaim.holds_of_wide 5 Try.f5 rfl rfl rfl rfl rfl rfl rfl ⟨rfl, rfl, rfl, rfl, rfl⟩ rfl rfl rfl rfl rfl (by kernel_rfl) Try.func5 (by kernel_rfl)
    (of_decide_eq_true (by kernel_rfl)) (by unfold Func.isWrapper; first | (rw [if_pos (by decide +kernel)]; kernel_rfl) | (rw [if_neg (by decide +kernel)]; exact ⟨rfl, rfl⟩))
    (fun os started H enc _ => lifted os started H enc)

/-- ████ THE STATEMENT ████ -/
theorem proved : Rows.FnDisagreementNamesTheKindOfEachChangeSaid :=
  over
end Go.Proofs.Qxb6603884a.fnDisagreementNamesTheKindOfEachChange
