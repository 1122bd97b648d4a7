/-
  OWN WORK. slices.SortFunc over changes, by the shelf's contract: a permutation, sorted by the paths.
-/
import Derived.Shelf.SlSortCmp.NoneTotal
import Derived.Test.Qxb6603884aShelf
import Derived.Test.Qxb6603884aDiff
import Derived.Test.Qxb6603884aOrd
namespace Go.Proofs.Qxb6603884a
open Go Go.Shelf Go.RowKit Go.Lib Go.Sort
set_option linter.unusedVariables false
set_option linter.unusedSimpArgs false

def cf (x y : Ch) : Int := Lib.compareBytes x.1.data.toList y.1.data.toList
theorem ltOf_cf (x y : Ch) : ltOf cf x y = decide (x.1.data.toList < y.1.data.toList) := by
  unfold ltOf cf
  rw [Bool.eq_iff_iff]
  simp [cb_lt]
theorem cf_irrefl (x : Ch) : ltOf cf x x = false := by rw [ltOf_cf]; simp
theorem cf_trans (x y z : Ch) (h1 : ltOf cf x y = true) (h2 : ltOf cf y z = true) : ltOf cf x z = true := by
  rw [ltOf_cf, decide_eq_true_eq] at *
  exact List.lt_trans h1 h2
theorem cf_ntrans (x y z : Ch) (h1 : ltOf cf x y = false) (h2 : ltOf cf y z = false) : ltOf cf x z = false := by
  rw [ltOf_cf, decide_eq_false_iff_not] at *
  rw [List.not_lt] at *
  exact List.le_trans h2 h1
theorem swo_cf : SWO (ltOf cf) := { irrefl := cf_irrefl, trans := cf_trans, ntrans := cf_ntrans }

set_option maxHeartbeats 1000000 in
theorem closure17 (x y : Ch) (W : World) : Calls Try.prog 17 #[.agg #[.string x.1, .slice x.2.1 x.2.2.1 x.2.2.2], .agg #[.string y.1, .slice y.2.1 y.2.2.1 y.2.2.2]] W fun e w' => e = .returned (.int .i64 (cf x y)) ∧ ∃ q os', w' = grow (W.drewN q) os' := by
  have hcon := fun W' => Try.strings_Compare x.1 y.1 W'
  unfold cf
  generalize Lib.compareBytes x.1.data.toList y.1.data.toList = r at hcon ⊢
  go_enter Try.func17, Try.ntmps17
  go_wp2_with (go_at_call 18; refine (hcon _).mono ?_; rintro e w' ⟨rfl, rfl⟩)
  go_ret
  exact ⟨rfl, 0, _, by rw [alloc_eq_grow, alloc_eq_grow, grow_grow]; rfl⟩

theorem cmpLays17 (blk off size : Nat) (w : World) : CmpLays Try.prog 17 #[] enc 2 cf blk off size w :=
  fun _ _ _ _ x y => closure17 x y _

theorem flat_at {l : List Ch} {j : Nat} (hj : j < l.length * 2) : (flat l)[j]? = some (enc l.toArray[j / 2]!)[j % 2]! := by
  have hi : j / 2 < l.length := by omega
  have hg := flat_get hi
  have e : l.toArray[j / 2]! = l[j / 2] := by simp [hi]
  rw [e]
  rcases Nat.mod_two_eq_zero_or_one j with h | h
  · have e2 : j = j / 2 * 2 := by omega
    have e3 : (flat l)[j]? = (flat l)[j / 2 * 2]? := congrArg (fun t => (flat l)[t]?) e2
    rw [h, e3]
    exact hg.1
  · have e2 : j = j / 2 * 2 + 1 := by omega
    have e3 : (flat l)[j]? = (flat l)[j / 2 * 2 + 1]? := congrArg (fun t => (flat l)[t]?) e2
    rw [h, e3]
    exact hg.2

theorem grownBy_sortK {w : World} {g off n : Nat} {os : Array Obj} (d : Array Ch) : w.grownBy (sortWorldK enc 2 w g off n d os) (some g) := by
  refine ⟨rfl, rfl, rfl, by simp [sortWorldK, putRowK, putRow, mapBlock, grow, ahead], fun i hi hne => ?_⟩
  have hig : g ≠ i := fun e => hne (by rw [e])
  simp only [sortWorldK, putRowK, putRow, mapBlock, grow, ahead]
  rw [Array.getElem?_append_left (by simpa using hi), Array.getElem?_modify, if_neg hig]
  rfl

theorem sort16 : SortOk := by
  intro w B s l hrow hlen
  cases l with
  | nil =>
    have hs : ∃ p cap, s = .slice p 0 cap := by
      rcases hrow.2 with ⟨hv, _⟩ | ⟨g, cap, cur, hv, _⟩
      · exact ⟨none, 0, hv⟩
      · exact ⟨_, cap, hv⟩
    obtain ⟨p, cap, rfl⟩ := hs
    have h := AnyF.slices_SortFunc_none { Try.sortCh with } p cap (.func (.func 17) #[] #[]) w
    change Calls Try.prog 16 _ _ _ at h
    refine h.mono ?_
    rintro e w' ⟨rfl, rfl⟩
    refine ⟨rfl, [], List.Perm.refl _, List.Pairwise.nil, ⟨p, cap, rfl, fun k hk => absurd hk (Nat.not_lt_zero _)⟩, ⟨rfl, rfl, rfl, Nat.le_refl _, fun i _ _ => rfl⟩⟩
  | cons y r =>
    rcases hrow.2 with ⟨hv, h0⟩ | ⟨g, cap, cur, hv, hbase, hg, h1, h2, h3⟩
    · simp at h0
    · have hlt := (World.ownsRow.lt hrow g (by rw [hv]; rfl)).2
      subst hv
      generalize hl : y :: r = l at *
      have hH : HoldsK enc 2 w g 0 l.toArray := by
        intro j hj
        have hj2 : j < l.length * 2 := by simpa using hj
        refine ⟨?_, ?_⟩
        · rw [Nat.zero_add, World.ownsRow.cellAt hrow j hj2, flat_at hj2, get_flatK _ _ _ _ (by simpa using hj2)]
          rfl
        · rw [Nat.zero_add]
          exact World.ownsRow.frozenAt hrow j
      have eg : ∀ args w, (callFunc 17 args).run Try.prog w = .ok (.enter 17 args) w := enters_of Try.func17 (by kernel_rfl) rfl
      have h := AnyQ.slices_SortFunc Try.sortCh 2 Try.isAgg39 Try.sizeOf39 enc (fun _ => rfl) (fun x v hv => by simp [enc] at hv; rcases hv with rfl | rfl <;> rfl) cf swo_cf 17 #[] g 0 cap l.toArray w eg (cmpLays17 g 0 _ w) hH hlt (by simp; omega)
      change Calls Try.prog 16 _ _ _ at h
      refine h.mono ?_
      rintro e w' ⟨rfl, d', n, os, hp, hs, rfl⟩
      obtain ⟨hps, _, hpp⟩ := hp
      have hds : d'.size = l.length := by simpa using hps
      have hH' : HoldsK enc 2 (sortWorldK enc 2 w g 0 n d' os) g 0 d' := holdsK_sortWorldK_c enc 2 w g 0 l.toArray d' n os hH hlt hps
      have hl' : d'.toList.length = l.length := by simpa using hds
      refine ⟨rfl, d'.toList, ?_, ?_, ?_, grownBy_sortK d'⟩
      · have e1 : d'.extract 0 l.toArray.size = d' := by rw [← hps]; exact Array.extract_size
        have e2 : l.toArray.extract 0 l.toArray.size = l.toArray := Array.extract_size
        rw [e1, e2] at hpp
        simpa using hpp
      · rw [List.pairwise_iff_getElem]
        intro i j hi hj hij
        have h5 := hs i j (Nat.zero_le _) hij (by simp at hj ⊢; omega)
        rw [ltOf_cf, decide_eq_false_iff_not] at h5
        have ei : d'[i]! = d'.toList[i] := by simp at hi; simp [hi]
        have ej : d'[j]! = d'.toList[j] := by simp at hj; simp [hj]
        rw [ei, ej] at h5
        intro h6
        exact h5 ((cb_lt _ _).1 h6)
      · refine ⟨_, cap, by rw [hl'], fun k hk => ⟨g, 0, rfl, ?_, ?_, ?_⟩⟩
        · exact Nat.lt_of_lt_of_le hlt (grownBy_sortK (w := w) (g := g) (off := 0) (n := n) (os := os) d').size
        · have h6 := (HoldsK.cell hH' (i := k) (c := 0) (by simpa using hk) (by omega)).1
          have ek : d'[k]! = d'.toList[k] := by simp at hk; simp [hk]
          rw [ek] at h6
          exact h6
        · have h6 := (HoldsK.cell hH' (i := k) (c := 1) (by simpa using hk) (by omega)).1
          have ek : d'[k]! = d'.toList[k] := by simp at hk; simp [hk]
          rw [ek] at h6
          exact h6
end Go.Proofs.Qxb6603884a
