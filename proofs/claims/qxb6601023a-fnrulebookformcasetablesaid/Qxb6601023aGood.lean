/-
  OWN WORK. The two trees are well formed (reckoned by the kernel); a form's memory is not the caller's variable; ZZrulebookForm_b1 (7).
-/
import Derived.Test.Qxb6601023aWellE
import Derived.Test.Qxb6601023aFormBd
namespace Go.Proofs.Qxb6601023a
open Go.RowKit Go.Flow
set_option linter.unusedVariables false
set_option linter.unusedSimpArgs false

def bE (x : ByteArray) : Bool := x.data.toList.isEmpty
def bQ (x y : ByteArray) : Bool := x.data.toList == y.data.toList
def bHas (l : List ByteArray) (x : ByteArray) : Bool := l.any fun y => bQ y x
def bDis : List ByteArray → Bool
  | [] => true
  | x :: r => !bE x && (r.all fun y => !bQ x y) && bDis r
def bGood : (n : Nat) → FTree n → Bool → List ByteArray → Bool
  | 0, t, _, _ => nomatch t
  | n + 1, t, top, allowed =>
    (if top then bE (FNode.name t) && bE (FNode.left t) && bE (FNode.needed t) && !FNode.array t
      else !bE (FNode.name t) && (bQ (FNode.left t) k_no_rule || bQ (FNode.left t) k_refuse)) &&
    (decide (0 < (allOf t).length) && decide ((allOf t).length ≤ 1000) && bDis (allOf t) && ((FNode.oneOf t).all fun x => bHas (allOf t) x) &&
    ((FNode.counts t).all fun c => (bHas (FNode.keys t) c.1 || bHas (FNode.optional t) c.1) && !bE c.2.1 && decide (0 ≤ c.2.2)) &&
    ((FNode.together t).all fun g => decide (2 ≤ g.length)) &&
    (bHas (FNode.keys t) k_base == decide (0 < (FNode.bases t).length)) &&
    ((FNode.bases t).all fun b => bHas allowed b) &&
    ((FNode.tables t).all fun t' => bGood n t' false allowed))

theorem bE_eq (x : ByteArray) : x.toList.isEmpty = bE x := by unfold bE; rw [ByteArray.toList_eq]
theorem bQ_eq (x y : ByteArray) : (x.toList == y.toList) = bQ x y := by unfold bQ; rw [ByteArray.toList_eq, ByteArray.toList_eq]
theorem bHas_eq (l : List ByteArray) (x : ByteArray) : has l x = bHas l x := by
  unfold has bHas
  congr 1
  funext y
  exact bQ_eq y x
theorem bDis_spec : ∀ (l : List ByteArray), bDis l = true → ∀ i (hi : i < l.length), bE l[i] = false ∧ ∀ j (hj : j < l.length), i < j → bQ l[i] l[j] = false
  | [], _, i, hi => by simp at hi
  | x :: r, h, i, hi => by
    simp only [bDis, Bool.and_eq_true, Bool.not_eq_true', List.all_eq_true] at h
    obtain ⟨⟨h1, h2⟩, h3⟩ := h
    cases i with
    | zero =>
      refine ⟨h1, fun j hj hij => ?_⟩
      cases j with
      | zero => omega
      | succ j => exact h2 _ (List.getElem_mem (by simpa using hj))
    | succ i =>
      obtain ⟨a, b⟩ := bDis_spec r h3 i (by simpa using hi)
      refine ⟨a, fun j hj hij => ?_⟩
      cases j with
      | zero => omega
      | succ j => exact b j (by simpa using hj) (by omega)
theorem good_of : ∀ (n : Nat) (t : FTree n) (top : Bool) (allowed : List ByteArray), bGood n t top allowed = true → Good n t top allowed
  | 0, t, _, _, _ => nomatch t
  | n + 1, t, top, allowed, h => by
    unfold bGood at h
    rw [Bool.and_eq_true] at h
    obtain ⟨h0, h⟩ := h
    simp only [Bool.and_eq_true, decide_eq_true_eq, List.all_eq_true, beq_iff_eq, Bool.or_eq_true, Bool.not_eq_true'] at h
    obtain ⟨⟨⟨⟨⟨⟨⟨⟨p1, p2⟩, p3⟩, p4⟩, p5⟩, p6⟩, p7⟩, p8⟩, p9⟩ := h
    refine ⟨?_, p1, p2, ?_, ?_, ?_, p6, ?_, ?_, ?_⟩
    · cases top with
      | true =>
        simp only [if_true, Bool.and_eq_true, Bool.not_eq_true'] at h0
        simp only [if_true, bE_eq]
        exact ⟨h0.1.1.1, h0.1.1.2, h0.1.2, h0.2⟩
      | false =>
        simp only [Bool.false_eq_true, if_false, Bool.and_eq_true, Bool.not_eq_true', Bool.or_eq_true] at h0
        simp only [Bool.false_eq_true, if_false, bE_eq, bQ_eq]
        exact h0
    · intro i hi
      obtain ⟨a, b⟩ := bDis_spec _ p3 i hi
      exact ⟨by rw [bE_eq]; exact a, fun j hj hij => by rw [bQ_eq]; exact b j hj hij⟩
    · intro x hx; rw [bHas_eq]; exact p4 x hx
    · intro c hc
      obtain ⟨⟨a, b⟩, d⟩ := p5 c hc
      rw [bHas_eq, bHas_eq, bE_eq]
      exact ⟨a, b, d⟩
    · rw [bHas_eq]; exact p7
    · intro b hb; rw [bHas_eq]; exact p8 b hb
    · intro t' ht'; exact good_of n t' false allowed (p9 t' ht')

theorem good_sh : Good 6 shTree true vpL := good_of _ _ _ _ (by decide +kernel)
theorem good_bd : Good 6 bdTree true bbL := good_of _ _ _ _ (by decide +kernel)

/-! ### a form's memory is not the block that the caller laid for it -/
theorem own_fresh {w : World} {e size n N : Nat} {v : Value} {xs : List Value} {zs : Array Value} (h : Own [] w e size v n xs) (hB : w.heap[N]? = some (.cells zs 30 (0, 0))) (he : e ≠ 30) : Own [N] w e size v n xs := by
  refine ⟨h.1, fun g hg hm => ?_, h.2.2⟩
  simp at hm
  subst hm
  rcases h.1.2 with ⟨hv, -⟩ | ⟨g', cap, cur, hv, -, hb, -⟩
  · subst hv; cases hg
  · subst hv
    have : g' = g := by simpa [Value.ownBlock] using hg
    subst this
    rw [hB] at hb
    cases hb
    exact he rfl
theorem form_fresh {w : World} {N : Nat} {zs : Array Value} (hB : w.heap[N]? = some (.cells zs 30 (0, 0))) (hz : zs[0]? = some (.string k_empty)) : ∀ (n : Nat) (t : FTree n) (top : Bool) (allowed : List ByteArray) (v : Value), Good n t top allowed → FormIs [] n w v t → FormIs [N] n w v t
  | 0, t, _, _, _, _, _ => nomatch t
  | n + 1, t, top, allowed, v, hG, ⟨sk, so, st, s1, sc, sb, sf, hv, h1, h2, h3, h4, h5, h6, h7⟩ => by
    refine ⟨sk, so, st, s1, sc, sb, sf, hv, own_fresh h1 hB (by decide), own_fresh h2 hB (by decide), ?_, own_fresh h4 hB (by decide), own_fresh h5 hB (by decide), own_fresh h6 hB (by decide), ?_⟩
    · obtain ⟨vs, o, l, e⟩ := h3
      exact ⟨vs, own_fresh o hB (by decide), l, fun i v l hv hl => own_fresh (e i v l hv hl) hB (by decide)⟩
    · obtain ⟨css, o, l, e⟩ := h7
      have hsub : ∀ t' ∈ FNode.tables t, Good n t' false allowed := hG.2.2.2.2.2.2.2.2.2
      refine ⟨css, ⟨o.1, fun g hg hm => ?_, o.2.2⟩, l, fun i cs t' hc ht => ?_⟩
      · simp at hm
        subst hm
        have hpos : 0 < (FNode.tables t).length := by
          rcases Nat.eq_zero_or_pos (FNode.tables t).length with h0 | h0
          · rw [o.2.2 h0] at hg; cases hg
          · exact h0
        rcases o.1.2 with ⟨hv', -⟩ | ⟨g', cap, cur, hv', -, hb, -, -, -, htake⟩
        · rw [hv'] at hg; cases hg
        · rw [hv'] at hg
          have : g' = g := by simpa [Value.ownBlock] using hg
          subst this
          rw [hB] at hb
          cases hb
          have hc0 : css[0]? = some (css[0]'(by omega)) := List.getElem?_eq_getElem (by omega)
          have ht0 : (FNode.tables t)[0]? = some ((FNode.tables t)[0]) := List.getElem?_eq_getElem hpos
          obtain ⟨e11, ef⟩ := e 0 _ _ hc0 ht0
          have hg0 := hsub _ (List.getElem_mem hpos)
          generalize (FNode.tables t)[0] = t0 at *
          generalize css[0] = L at *
          have hfl : css.flatten[0]? = L[0]? := by
            cases css with
            | nil => simp at hc0
            | cons d ds =>
              simp at hc0
              subst hc0
              rw [List.flatten_cons, List.getElem?_append_left (by omega)]
          have hzero : zs.toList[0]? = L[0]? := by
            rw [← hfl, ← htake, List.getElem?_take, if_pos (by omega)]
          cases n with
          | zero => exact nomatch t0
          | succ m =>
            obtain ⟨_, _, _, _, _, _, _, hv0, -⟩ := ef
            have hL : L[0]? = some (.string (FNode.name t0)) := by
              have := congrArg (fun v => match v with | Value.agg a => a[0]? | _ => none) hv0
              simpa using this
            have hz' : zs.toList[0]? = some (.string k_empty) := by simpa using hz
            rw [hzero, hL] at hz'
            have hnm : FNode.name t0 = k_empty := by simpa using hz'
            have hne := hg0.1.1
            rw [hnm, ByteArray.toList_eq] at hne
            exact absurd hne (by decide)
      · obtain ⟨a, b⟩ := e i cs t' hc ht
        exact ⟨a, form_fresh hB hz n t' false allowed _ (hsub t' (List.mem_of_getElem? ht)) b⟩

set_option maxRecDepth 100000 in
set_option maxHeartbeats 1000000 in
theorem form7 {t : FTree 6} {allowed : List ByteArray} (body : ByteArray) (hG : Good 6 t true allowed) (h20 : ∀ w, Calls Try.prog 20 #[.string body] w (Post20 w t)) (w : World) : Calls Try.prog 7 #[.string body] w (Post20 w t) := by
  have HG := hide hG
  have H20 := hide h20
  clear hG h20
  go_enter Try.func7, Try.ntmps7
  go_wp2_with fail
  refine ((unhide H20) _).mono ?_
  rintro e w1 ⟨v, rfl, hf, hb⟩
  have hB : w1.heap[w.heap.size]? = some (.cells #[.string k_empty, .bool false, .string k_empty, .string k_empty, .slice none 0 0, .slice none 0 0, .slice none 0 0, .slice none 0 0, .slice none 0 0, .slice none 0 0, .slice none 0 0] 30 (0, 0)) := by
    rw [hb.block _ (by simp)]
    exact blk_top _ _ rfl
  have hff := form_fresh hB rfl 6 t true allowed v (unhide HG) hf
  have hv1 := (VarB.new (w := w) _ 30 rfl).below hb
  have HV1 := hide hv1
  obtain ⟨bl, bc, bf⟩ := hv1
  obtain ⟨a4, n4, d4, a5, n5, d5, a6, n6, d6, a7, n7, d7, a8, n8, d8, a9, n9, d9, a10, n10, d10, rfl, -⟩ := hff.open
  have HF := hide hff
  have HBL := hide (((Below.refl w.heap.size w).alloc (Nat.le_refl _) _).trans (hb.mono (by simp)))
  clear hf hb hff hB
  go_wp2
  refine bodyPost_ret (v := .agg #[.string (FNode.name t), .bool (FNode.array t), .string (FNode.needed t), .string (FNode.left t), .slice a4 n4 d4, .slice a5 n5 d5, .slice a6 n6 d6, .slice a7 n7 d7, .slice a8 n8 d8, .slice a9 n9 d9, .slice a10 n10 d10]) (by simp [results, Try.results7, go_sem, bl, bc]) rfl ⟨_, rfl, ?_, ?_⟩
  · refine ((unhide HF).keep ?_).shift (by simp)
    iterate 11 (refine Keep.setCell ?_ _ (by simp) _)
    exact Keep.refl _ _
  · iterate 11 (refine Below.setCell ?_ (by exact Nat.le_refl _) _)
    exact unhide HBL
end Go.Proofs.Qxb6601023a
