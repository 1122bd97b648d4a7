/-
  OWN WORK. A region that draws its order and whose operations make memory, read and call: ONE LOOK AT EACH OPERATION SERVES EVERY ORDER.
  Each operation but the last is given a predicate on its value and the world, which stands as the world grows ('Below w.heap.size w w''). What is shown of an operation is shown in every grown world in which the predicates of what it waits for hold. The last operation waits for all others.
-/
import Derived.Orders
import Derived.Below
import Derived.RegionTactic
namespace Go.Flow
open Go Go.RowKit

section
variable {P : Program} {ops : Array Oper} {Q : Exit → Act → World → Prop} {md : Region.Mode}

/-- How many have not come up. -/
def unl (n : Nat) (listed : Array Bool) : List Nat := (List.range n).filter fun i => !listed.getD i true

theorem getD_set' (listed : Array Bool) (i j : Nat) : (listed.setIfInBounds i true).getD j true = if i = j then true else listed.getD j true := by
  by_cases h : i = j
  · subst h
    rw [if_pos rfl]
    by_cases hs : i < listed.size
    · simp [hs]
    · simp [hs]
  · rw [if_neg h]
    simp [Array.getElem?_setIfInBounds_ne h]

theorem unl_set (n i : Nat) (listed : Array Bool) (hi : i ∈ unl n listed) : (unl n (listed.setIfInBounds i true)).length < (unl n listed).length := by
  have h : unl n (listed.setIfInBounds i true) = (unl n listed).filter fun j => !(j == i) := by
    unfold unl
    rw [List.filter_filter]
    apply List.filter_congr
    intro j _
    rw [getD_set']
    by_cases h : i = j
    · subst h; simp
    · rw [if_neg h]
      have : (j == i) = false := by simpa using fun e => h e.symm
      simp [this]
  rw [h, List.length_filter_lt_length_iff_exists]
  exact ⟨i, hi, by simp⟩

theorem wpAny_inv (I : Array Bool → Act → World → Prop)
    (hstep : ∀ listed a w, I listed a w → ∀ i ∈ Region.ready md ops listed, wpOp P ops Q i (I (listed.setIfInBounds i true)) a w)
    (hend : ∀ listed a w, I listed a w → Region.ready md ops listed = [] → Q .normal a w) :
    ∀ (fuel : Nat) (listed : Array Bool) (a : Act) (w : World), (unl ops.size listed).length ≤ fuel → I listed a w → wpAny P md ops Q fuel listed a w
  | 0, listed, a, w, hf, h => by
    have hr : Region.ready md ops listed = [] := by
      have hu : unl ops.size listed = [] := List.length_eq_zero_iff.1 (by omega)
      rw [List.eq_nil_iff_forall_not_mem]
      intro i hi
      obtain ⟨h1, o, h2, _⟩ := mem_ready.1 hi
      have : i ∈ unl ops.size listed := by
        unfold unl
        rw [List.mem_filter, List.mem_range]
        exact ⟨(Array.getElem?_eq_some_iff.1 h2).1, by rw [h1]; rfl⟩
      rw [hu] at this
      cases this
    exact ⟨hr, hend _ _ _ h hr⟩
  | fuel + 1, listed, a, w, hf, h => by
    refine ⟨fun hr => hend _ _ _ h hr, fun i hi => ?_⟩
    refine wpOp_mono (fun a' w' h' => wpAny_inv I hstep hend fuel _ a' w' ?_ h') (hstep _ _ _ h i hi)
    obtain ⟨h1, o, h2, _⟩ := mem_ready.1 hi
    have hm : i ∈ unl ops.size listed := by
      unfold unl
      rw [List.mem_filter, List.mem_range]
      exact ⟨(Array.getElem?_eq_some_iff.1 h2).1, by rw [h1]; rfl⟩
    have := unl_set ops.size i listed hm
    omega

/-- The temporaries 'ds', numbered from k on, hold 'vals'. -/
def fill : List Tmp → Nat → (Nat → Value) → Act → Act
  | [], _, _, a => a
  | d :: ds, k, vals, a => fill ds (k + 1) vals (a.put (some d) (vals k))

theorem fill_congr : ∀ (ds : List Tmp) (k : Nat) (v v' : Nat → Value) (a : Act), (∀ j, k ≤ j → v j = v' j) → fill ds k v a = fill ds k v' a
  | [], _, _, _, _, _ => rfl
  | d :: ds, k, v, v', a, h => by
    unfold fill
    rw [h k (Nat.le_refl _)]
    exact fill_congr ds (k + 1) v v' _ fun j hj => h j (by omega)

theorem fill_put : ∀ (ds : List Tmp) (k : Nat) (v : Nat → Value) (a : Act) (d : Tmp) (u : Value), d ∉ ds → (fill ds k v a).put (some d) u = fill ds k v (a.put (some d) u)
  | [], _, _, _, _, _, _ => rfl
  | e :: ds, k, v, a, d, u, h => by
    simp only [List.mem_cons, not_or] at h
    unfold fill
    rw [fill_put ds (k + 1) v _ d u h.2, Act.put_comm a (x := some e) (y := some d) (v k) u (fun x hx hy => h.1 (by simp_all))]

theorem put_put (a : Act) (d : Tmp) (u v : Value) : (a.put (some d) u).put (some d) v = a.put (some d) v := by
  simp [Act.put]

theorem fill_set : ∀ (ds : List Tmp) (k i : Nat) (v : Nat → Value) (a : Act) (d : Tmp) (u : Value), ds.Nodup → ds[i]? = some d →
    (fill ds k v a).put (some d) u = fill ds k (fun j => if j = k + i then u else v j) a
  | [], _, _, _, _, _, _, _, h => by simp at h
  | e :: ds, k, 0, v, a, d, u, hn, h => by
    have he : e = d := by simpa using h
    subst he
    rw [List.nodup_cons] at hn
    unfold fill
    rw [fill_put _ _ _ _ _ _ hn.1, put_put]
    simp only [Nat.add_zero, if_true]
    exact fill_congr _ _ _ _ _ fun j hj => by rw [if_neg (by omega)]
  | e :: ds, k, i + 1, v, a, d, u, hn, h => by
    have h' : ds[i]? = some d := by simpa using h
    rw [List.nodup_cons] at hn
    unfold fill
    rw [fill_set ds (k + 1) i v _ d u hn.2 h']
    have hk : ¬ k = k + (i + 1) := by omega
    simp only [if_neg hk]
    refine fill_congr _ _ _ _ _ fun j _ => ?_
    have : (j = k + 1 + i) ↔ (j = k + (i + 1)) := by omega
    simp only [this]

theorem fill_same : ∀ (ds : List Tmp) (k : Nat) (a : Act), fill ds k (fun j => match ds[j - k]? with | some d => a.tmps.getD d undef | none => undef) a = a
  | [], _, _ => rfl
  | d :: ds, k, a => by
    unfold fill
    have hp : a.put (some d) (a.tmps.getD d undef) = a := by
      obtain ⟨ts, df⟩ := a
      simp only [Act.put]
      congr 1
      apply Array.ext
      · simp
      · intro i h1 h2
        rw [Array.getElem_setIfInBounds]
        split
        · rename_i he; subst he; simp [h2]
        · rfl
    simp only [Nat.sub_self, List.getElem?_cons_zero]
    rw [hp]
    refine Eq.trans (fill_congr _ _ _ _ _ fun j hj => ?_) (fill_same ds (k + 1) a)
    have : j - k = (j - (k + 1)) + 1 := by omega
    rw [this]
    simp

/-- What operation i waits for, directly or not. -/
def cl (l : List Oper) : Nat → Nat → List Nat
  | 0, _ => []
  | f + 1, i => ((l[i]?).map fun o => o.after.toList.flatMap fun e => if Region.binds .any e then e.on :: cl l f e.on else []).getD []

theorem cl_listed {l : List Oper} {listed : Array Bool} (D : ∀ (i : Nat) (o : Oper), l[i]? = some o → listed.getD i true = true → i < l.length → ∀ e ∈ o.after, Region.binds .any e = true → listed.getD e.on true = true ∧ e.on < l.length) :
    ∀ (f i : Nat) (o : Oper), l[i]? = some o → (∀ e ∈ o.after, Region.binds .any e = true → listed.getD e.on true = true ∧ e.on < l.length) → ∀ j ∈ cl l f i, listed.getD j true = true
  | 0, _, _, _, _, _, hj => by cases hj
  | f + 1, i, o, ho, h, j, hj => by
    unfold cl at hj
    rw [ho] at hj
    simp only [Option.map_some, Option.getD_some, List.mem_flatMap] at hj
    obtain ⟨e, he, hj⟩ := hj
    have he' : e ∈ o.after := by simpa using he
    split at hj
    · rename_i hb
      obtain ⟨h1, h2⟩ := h e he' hb
      rcases List.mem_cons.1 hj with rfl | hj
      · exact h1
      · have ho2 : l[e.on]? = some (l[e.on]'h2) := List.getElem?_eq_getElem h2
        exact cl_listed D f e.on _ ho2 (fun e' he' hb' => D e.on _ ho2 h1 h2 e' he' hb') j hj
    · cases hj

/-- The closed facts: the temporaries of the first n; no guards; each waits only for earlier ones; each behind the first n waits for all that stand before it. -/
def flowB (l : List Oper) (n : Nat) (ds : List Tmp) : Bool :=
  decide (n ≤ l.length) && ((l.take n).map (·.dst) == ds.map some) && decide ds.Nodup && l.all (fun o => o.guard.isNone) &&
  (List.range l.length).all (fun i => ((l[i]?).map fun o => o.after.all fun e => decide (e.on < i)).getD false) &&
  (List.range l.length).all (fun i => decide (i < n) || (List.range i).all fun j => (cl l l.length i).contains j)

/-- **ONE LOOK AT EACH OPERATION SERVES EVERY ORDER.** The first n operations; those behind them come in the text's order. -/
theorem wp_region_flow {id : Nat} {a : Act} {w : World} {l : List Oper} (n : Nat) (ds : List Tmp) (Φs : Nat → Value → World → Prop)
    (hm : P.follows .mixedOrders = true) (hB : flowB l n ds = true)
    (hs : ∀ i v w1 w2, i < n → Φs i v w1 → Below w1.heap.size w1 w2 → Φs i v w2)
    (hop : ∀ i o, i < n → l[i]? = some o → ∀ vals w', Below w.heap.size w w' → (∀ e ∈ o.after, Region.binds .any e = true → Φs e.on (vals e.on) w') →
      o.wp P (fill ds 0 vals a) w' (fun a'' w'' => ∃ v, a'' = (fill ds 0 vals a).put o.dst v ∧ Below w'.heap.size w' w'' ∧ Φs i v w'') Q)
    (hend : ∀ vals w', Below w.heap.size w w' → (∀ i, i < n → Φs i (vals i) w') → wpList P l.toArray Q (l.drop n) (fill ds 0 vals a) w') :
    (Code.region id l.toArray true).wp P Q a w := by
  simp only [flowB, Bool.and_eq_true, beq_iff_eq, List.all_eq_true, decide_eq_true_eq, Bool.or_eq_true, List.mem_range, List.contains_iff_mem] at hB
  obtain ⟨⟨⟨⟨⟨hlen, hds⟩, hnd⟩, hg⟩, hlt⟩, hall⟩ := hB
  have hsz : l.toArray.size = l.length := by simp
  have hdsl : ds.length = n := by
    have := congrArg List.length hds
    simp at this
    omega
  have hdst : ∀ i o, i < n → l[i]? = some o → ∃ d, ds[i]? = some d ∧ o.dst = some d := fun i o hi ho => by
    have h1 : (((l.take n).map (·.dst))[i]?) = some o.dst := by
      rw [List.getElem?_map, List.getElem?_take, if_pos hi, ho]; rfl
    rw [hds, List.getElem?_map] at h1
    cases hd : ds[i]? with
    | none => rw [hd] at h1; cases h1
    | some d => rw [hd] at h1; exact ⟨d, rfl, by simpa using h1.symm⟩
  have hwant : ∀ i o, l[i]? = some o → ∀ (a : Act), Region.wanted o (yielded l.toArray a.tmps) = true := fun i o ho a => by
    have := hg o (List.mem_of_getElem? ho)
    unfold Region.wanted
    cases hgd : o.guard with
    | none => rfl
    | some _ => rw [hgd] at this; cases this
  have hlt' : ∀ (i : Nat) (o : Oper), l[i]? = some o → ∀ e ∈ o.after, e.on < i := fun i o ho e he => by
    have h1 := hlt i ((List.getElem?_eq_some_iff.1 ho).1)
    rw [ho] at h1
    simp only [Option.map_some, Option.getD_some, Array.all_eq_true_iff_forall_mem, decide_eq_true_eq] at h1
    exact h1 e he
  refine wp_region_any hm (wpAny_inv (fun listed a' w' => listed.size = l.length ∧
      (∀ (i : Nat) (o : Oper), l[i]? = some o → listed.getD i true = true → i < l.length → ∀ e ∈ o.after, Region.binds .any e = true → listed.getD e.on true = true ∧ e.on < l.length) ∧
      (((∀ j, n ≤ j → j < l.length → listed.getD j true = false) ∧ Below w.heap.size w w' ∧ ∃ vals, a' = fill ds 0 vals a ∧ ∀ i, i < n → listed.getD i true = true → Φs i (vals i) w') ∨
       (∃ k, (∀ j, j < k → listed.getD j true = true) ∧ (∀ j, k ≤ j → j < l.length → listed.getD j true = false) ∧ n ≤ k ∧ wpList P l.toArray Q (l.drop k) a' w'))) ?_ ?_ _ _ _ _ ?_ ?_)
  · -- a step
    intro listed a' w' hI i hi
    obtain ⟨hls, hD, hI⟩ := hI
    obtain ⟨hun, o, ho, hafter⟩ := mem_ready.1 hi
    have hol : l[i]? = some o := by simpa using ho
    have hi1 : i < l.length := (List.getElem?_eq_some_iff.1 hol).1
    have hafter' : ∀ e ∈ o.after, Region.binds .any e = true → listed.getD e.on true = true ∧ e.on < l.length := fun e he hbd => by
      have h1 := hlt' i o hol e he
      have h2 := hafter e he hbd
      have h3 : e.on < listed.size := by omega
      refine ⟨?_, by omega⟩
      simp [h3] at h2 ⊢
      exact h2
    have hls' : (listed.setIfInBounds i true).size = l.length := by simpa using hls
    have hD' : ∀ (k : Nat) (o' : Oper), l[k]? = some o' → (listed.setIfInBounds i true).getD k true = true → k < l.length → ∀ e ∈ o'.after, Region.binds .any e = true → (listed.setIfInBounds i true).getD e.on true = true ∧ e.on < l.length := by
      intro k o' ho' hk hkl e he hbd
      have key : listed.getD e.on true = true ∧ e.on < l.length := by
        rw [getD_set'] at hk
        by_cases hik : i = k
        · subst hik
          rw [hol] at ho'
          cases ho'
          exact hafter' e he hbd
        · rw [if_neg hik] at hk
          exact hD k o' ho' hk hkl e he hbd
      refine ⟨?_, key.2⟩
      rw [getD_set']
      split
      · rfl
      · exact key.1
    have hbefore : n ≤ i → ∀ j, j < i → listed.getD j true = true := fun hni j hj => by
      rcases hall i hi1 with h | h
      · omega
      · exact cl_listed hD l.length i o hol hafter' j (h j hj)
    rcases hI with ⟨hn, hb, vals, rfl, hv⟩ | ⟨k, hk1, hk2, hnk, hq⟩
    · by_cases hin : i < n
      · unfold wpOp
        rw [ho]
        simp only [hwant i o hol, if_true]
        left
        obtain ⟨d, hd, hod⟩ := hdst i o hin hol
        refine Oper.wp_mono (fun a'' w'' hq => ⟨hls', hD', Or.inl ?_⟩) (hop i o hin hol vals w' hb fun e he hbd => ?_)
        · obtain ⟨v, rfl, hb', hp⟩ := hq
          refine ⟨fun j hj hjl => by rw [getD_set', if_neg (by omega)]; exact hn j hj hjl, hb.trans (hb'.mono hb.size), fun j => if j = 0 + i then v else vals j, ?_, ?_⟩
          · rw [hod]; exact fill_set ds 0 i vals a d v hnd hd
          · intro j hj hlj
            rw [getD_set'] at hlj
            by_cases hji : i = j
            · subst hji; simp only [Nat.zero_add, if_true]; exact hp
            · rw [if_neg hji] at hlj
              simp only [Nat.zero_add]
              rw [if_neg (fun e => hji e.symm)]
              exact hs j _ _ _ hj (hv j hj hlj) hb'
        · have h1 := hlt' i o hol e he
          exact hv e.on (by omega) (hafter' e he hbd).1
      · have hb4 := hbefore (by omega)
        have hieq : i = n := by
          rcases Nat.lt_or_ge n i with h | h
          · have h1 := hb4 n h
            rw [hn n (Nat.le_refl _) (by omega)] at h1
            cases h1
          · omega
        subst hieq
        have hq := hend vals w' hb fun j hj => hv j hj (hb4 j hj)
        have hdrop : l.drop i = o :: l.drop (i + 1) := by
          rw [List.drop_eq_getElem_cons hi1]
          congr 1
          exact (List.getElem?_eq_some_iff.1 hol).2
        rw [hdrop] at hq
        unfold wpList at hq
        unfold wpOp
        rw [ho]
        simp only [hwant i o hol, if_true] at hq ⊢
        refine hq.elim (fun hq1 => Or.inl (Oper.wp_mono (fun a'' w'' hq' => ⟨hls', hD', Or.inr ⟨i + 1, ?_, ?_, by omega, hq'⟩⟩) hq1)) (fun h => Or.inr h)
        · intro j hj
          rw [getD_set']
          split
          · rfl
          · exact hb4 j (by omega)
        · intro j hj hjl
          rw [getD_set', if_neg (by omega)]
          exact hn j (by omega) hjl
    · have hki : k ≤ i := by
        rcases Nat.lt_or_ge i k with h | h
        · have := hk1 i h; rw [hun] at this; cases this
        · exact h
      have hb4 := hbefore (by omega)
      have hieq : i = k := by
        rcases Nat.lt_or_ge k i with h | h
        · have h1 := hb4 k h
          rw [hk2 k (Nat.le_refl _) (by omega)] at h1
          cases h1
        · omega
      subst hieq
      have hdrop : l.drop i = o :: l.drop (i + 1) := by
        rw [List.drop_eq_getElem_cons hi1]
        congr 1
        exact (List.getElem?_eq_some_iff.1 hol).2
      rw [hdrop] at hq
      unfold wpList at hq
      unfold wpOp
      rw [ho]
      simp only [hwant i o hol, if_true] at hq ⊢
      refine hq.elim (fun hq1 => Or.inl (Oper.wp_mono (fun a'' w'' hq' => ⟨hls', hD', Or.inr ⟨i + 1, ?_, ?_, by omega, hq'⟩⟩) hq1)) (fun h => Or.inr h)
      · intro j hj
        rw [getD_set']
        split
        · rfl
        · exact hk1 j (by omega)
      · intro j hj hjl
        rw [getD_set', if_neg (by omega)]
        exact hk2 j (by omega) hjl
  · -- the end
    intro listed a' w' hI hr
    obtain ⟨hls, hD, hI⟩ := hI
    have key : ∀ m i, i < m → listed.getD i true = true := by
      intro m
      induction m with
      | zero => intro i h; omega
      | succ m ih =>
        intro i him
        cases hli : listed.getD i true with
        | true => rfl
        | false =>
          exfalso
          have hi1 : i < l.length := by
            rcases Nat.lt_or_ge i l.length with h | h
            · exact h
            · have : ¬ i < listed.size := by omega
              simp [this] at hli
          have hol : l[i]? = some (l[i]'hi1) := List.getElem?_eq_getElem hi1
          have : i ∈ Region.ready .any l.toArray listed := by
            refine mem_ready.2 ⟨hli, l[i], by simp [hi1], fun e he hbd => ?_⟩
            have h2 := hlt' i _ hol e he
            have h3 := ih e.on (by omega)
            have h4 : e.on < listed.size := by omega
            simp [h4] at h3 ⊢
            exact h3
          rw [hr] at this
          cases this
    rcases hI with ⟨hn, hb, vals, rfl, hv⟩ | ⟨k, hk1, hk2, hnk, hq⟩
    · have hnl : n = l.length := by
        rcases Nat.lt_or_ge n l.length with h | h
        · have h1 := hn n (Nat.le_refl _) h
          rw [key (n + 1) n (by omega)] at h1
          cases h1
        · omega
      have hq := hend vals w' hb fun j hj => hv j hj (key (j + 1) j (by omega))
      rw [List.drop_of_length_le (by omega)] at hq
      exact hq
    · have hkl : l.length ≤ k := by
        rcases Nat.lt_or_ge k l.length with h | h
        · have h1 := hk2 k (Nat.le_refl _) h
          rw [key (k + 1) k (by omega)] at h1
          cases h1
        · exact h
      rw [List.drop_of_length_le hkl] at hq
      exact hq
  · have h := List.length_filter_le (fun i => !(Array.replicate l.toArray.size false).getD i true) (List.range l.toArray.size)
    simpa [unl] using h
  · refine ⟨by simp, ?_, Or.inl ⟨fun j _ hj => by simp [hj], (Below.refl _ _).drew, _, (fill_same ds 0 a).symm, ?_⟩⟩
    · intro i o ho h hl
      simp [hl] at h
    · intro i hi h
      have h1 : i < l.length := by omega
      simp [h1] at h

end
end Go.Flow
