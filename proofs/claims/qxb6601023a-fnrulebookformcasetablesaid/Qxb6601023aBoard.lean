/-
  OWN WORK. rulebookForm (20) at a board: what is kept of its variables.
-/
import Derived.Test.Qxb6601023aFormSh
namespace Go.Proofs.Qxb6601023a
open Go.RowKit Go.Flow
set_option linter.unusedVariables false
set_option linter.unusedSimpArgs false

def headOf : Code → Code
  | .seq a _ => a
  | c => c
def thenOf : Code → Code
  | .seq _ (.cond _ a _) => a
  | c => c

structure S1 (w0 w : World) (b2 b4 b5 b7 b8 b9 b10 b11 : Nat) (bl : List ByteArray) (sb : Value) (t7 t8 t9 t10 : FTree 5) (t11 : FTree 4) : Prop where
  s0 : S0 w0 w b2 b4 b5 bl sb
  ord : w0.heap.size ≤ b2 ∧ b2 < b4 ∧ b4 < b5 ∧ b5 < b7 ∧ b7 < b8 ∧ b8 < b9 ∧ b9 < b10 ∧ b10 < b11
  bs : Bases [b11, b10, b9, b8, b7, b2] w sb bl
  v7 : VarForm [b11, b10, b9, b8, b7, b2] 5 w b7 t7
  v8 : VarForm [b11, b10, b9, b8, b7, b2] 5 w b8 t8
  v9 : VarForm [b11, b10, b9, b8, b7, b2] 5 w b9 t9
  v10 : VarForm [b11, b10, b9, b8, b7, b2] 5 w b10 t10
  v11 : VarForm [b11, b10, b9, b8, b7, b2] 4 w b11 t11

theorem VarForm.below {X : List Nat} {n : Nat} {w w' : World} {b : Nat} {t : FTree n} (h : VarForm X n w b t) (hb : Below w.heap.size w w') : VarForm X n w' b t := h.keep2 (Y := []) (Keep.of_below hb) (by simp) (by simp)

theorem S1.grow {w0 w w2 : World} {b2 b4 b5 b7 b8 b9 b10 b11 : Nat} {bl : List ByteArray} {sb : Value} {t7 t8 t9 t10 : FTree 5} {t11 : FTree 4} (h : S1 w0 w b2 b4 b5 b7 b8 b9 b10 b11 bl sb t7 t8 t9 t10 t11) (hb : Below w.heap.size w w2) : S1 w0 w2 b2 b4 b5 b7 b8 b9 b10 b11 bl sb t7 t8 t9 t10 t11 :=
  ⟨h.s0.grow hb, h.ord, h.bs.keep (Keep.of_below hb), h.v7.below hb, h.v8.below hb, h.v9.below hb, h.v10.below hb, h.v11.below hb⟩
theorem S1.lt {w0 w : World} {b2 b4 b5 b7 b8 b9 b10 b11 : Nat} {bl : List ByteArray} {sb : Value} {t7 t8 t9 t10 : FTree 5} {t11 : FTree 4} (h : S1 w0 w b2 b4 b5 b7 b8 b9 b10 b11 bl sb t7 t8 t9 t10 t11) : ∀ k ∈ [b11, b10, b9, b8, b7, b2], k < w.heap.size := by
  intro k hk
  have := h.ord
  have := h.v11.lt
  simp only [List.mem_cons, List.not_mem_nil, or_false] at hk
  omega
theorem S1.put7 {w0 w W : World} {b2 b4 b5 b7 b8 b9 b10 b11 : Nat} {bl : List ByteArray} {sb : Value} {t7 t8 t9 t10 : FTree 5} {t11 : FTree 4} {t : FTree 5} (h : S1 w0 w b2 b4 b5 b7 b8 b9 b10 b11 bl sb t7 t8 t9 t10 t11) (hb : Below w0.heap.size w0 W) (k : Keep [b7] w W) (hv : VarForm [b11, b10, b9, b8, b7, b2] 5 W b7 t) :
    S1 w0 W b2 b4 b5 b7 b8 b9 b10 b11 bl sb t t8 t9 t10 t11 := by
  have hsub : ∀ k ∈ [b7], k ∈ [b11, b10, b9, b8, b7, b2] := by simp
  have ho := h.ord
  refine ⟨h.s0.store hb k (h.bs.shift fun k hk => .inl ?_) (by omega) (by omega) (by omega), h.ord, h.bs.keep (k.mono hsub), hv, h.v8.keep2 k hsub (by have := h.ord; simp; omega), h.v9.keep2 k hsub (by have := h.ord; simp; omega), h.v10.keep2 k hsub (by have := h.ord; simp; omega), h.v11.keep2 k hsub (by have := h.ord; simp; omega)⟩
  simp only [List.mem_cons, List.not_mem_nil, or_false] at hk ⊢
  omega
theorem S1.put8 {w0 w W : World} {b2 b4 b5 b7 b8 b9 b10 b11 : Nat} {bl : List ByteArray} {sb : Value} {t7 t8 t9 t10 : FTree 5} {t11 : FTree 4} {t : FTree 5} (h : S1 w0 w b2 b4 b5 b7 b8 b9 b10 b11 bl sb t7 t8 t9 t10 t11) (hb : Below w0.heap.size w0 W) (k : Keep [b8] w W) (hv : VarForm [b11, b10, b9, b8, b7, b2] 5 W b8 t) :
    S1 w0 W b2 b4 b5 b7 b8 b9 b10 b11 bl sb t7 t t9 t10 t11 := by
  have hsub : ∀ k ∈ [b8], k ∈ [b11, b10, b9, b8, b7, b2] := by simp
  have ho := h.ord
  refine ⟨h.s0.store hb k (h.bs.shift fun k hk => .inl ?_) (by omega) (by omega) (by omega), h.ord, h.bs.keep (k.mono hsub), h.v7.keep2 k hsub (by have := h.ord; simp; omega), hv, h.v9.keep2 k hsub (by have := h.ord; simp; omega), h.v10.keep2 k hsub (by have := h.ord; simp; omega), h.v11.keep2 k hsub (by have := h.ord; simp; omega)⟩
  simp only [List.mem_cons, List.not_mem_nil, or_false] at hk ⊢
  omega
theorem S1.put9 {w0 w W : World} {b2 b4 b5 b7 b8 b9 b10 b11 : Nat} {bl : List ByteArray} {sb : Value} {t7 t8 t9 t10 : FTree 5} {t11 : FTree 4} {t : FTree 5} (h : S1 w0 w b2 b4 b5 b7 b8 b9 b10 b11 bl sb t7 t8 t9 t10 t11) (hb : Below w0.heap.size w0 W) (k : Keep [b9] w W) (hv : VarForm [b11, b10, b9, b8, b7, b2] 5 W b9 t) :
    S1 w0 W b2 b4 b5 b7 b8 b9 b10 b11 bl sb t7 t8 t t10 t11 := by
  have hsub : ∀ k ∈ [b9], k ∈ [b11, b10, b9, b8, b7, b2] := by simp
  have ho := h.ord
  refine ⟨h.s0.store hb k (h.bs.shift fun k hk => .inl ?_) (by omega) (by omega) (by omega), h.ord, h.bs.keep (k.mono hsub), h.v7.keep2 k hsub (by have := h.ord; simp; omega), h.v8.keep2 k hsub (by have := h.ord; simp; omega), hv, h.v10.keep2 k hsub (by have := h.ord; simp; omega), h.v11.keep2 k hsub (by have := h.ord; simp; omega)⟩
  simp only [List.mem_cons, List.not_mem_nil, or_false] at hk ⊢
  omega
theorem S1.put10 {w0 w W : World} {b2 b4 b5 b7 b8 b9 b10 b11 : Nat} {bl : List ByteArray} {sb : Value} {t7 t8 t9 t10 : FTree 5} {t11 : FTree 4} {t : FTree 5} (h : S1 w0 w b2 b4 b5 b7 b8 b9 b10 b11 bl sb t7 t8 t9 t10 t11) (hb : Below w0.heap.size w0 W) (k : Keep [b10] w W) (hv : VarForm [b11, b10, b9, b8, b7, b2] 5 W b10 t) :
    S1 w0 W b2 b4 b5 b7 b8 b9 b10 b11 bl sb t7 t8 t9 t t11 := by
  have hsub : ∀ k ∈ [b10], k ∈ [b11, b10, b9, b8, b7, b2] := by simp
  have ho := h.ord
  refine ⟨h.s0.store hb k (h.bs.shift fun k hk => .inl ?_) (by omega) (by omega) (by omega), h.ord, h.bs.keep (k.mono hsub), h.v7.keep2 k hsub (by have := h.ord; simp; omega), h.v8.keep2 k hsub (by have := h.ord; simp; omega), h.v9.keep2 k hsub (by have := h.ord; simp; omega), hv, h.v11.keep2 k hsub (by have := h.ord; simp; omega)⟩
  simp only [List.mem_cons, List.not_mem_nil, or_false] at hk ⊢
  omega
theorem S1.put11 {w0 w W : World} {b2 b4 b5 b7 b8 b9 b10 b11 : Nat} {bl : List ByteArray} {sb : Value} {t7 t8 t9 t10 : FTree 5} {t11 : FTree 4} {t : FTree 4} (h : S1 w0 w b2 b4 b5 b7 b8 b9 b10 b11 bl sb t7 t8 t9 t10 t11) (hb : Below w0.heap.size w0 W) (k : Keep [b11] w W) (hv : VarForm [b11, b10, b9, b8, b7, b2] 4 W b11 t) :
    S1 w0 W b2 b4 b5 b7 b8 b9 b10 b11 bl sb t7 t8 t9 t10 t := by
  have hsub : ∀ k ∈ [b11], k ∈ [b11, b10, b9, b8, b7, b2] := by simp
  have ho := h.ord
  refine ⟨h.s0.store hb k (h.bs.shift fun k hk => .inl ?_) (by omega) (by omega) (by omega), h.ord, h.bs.keep (k.mono hsub), h.v7.keep2 k hsub (by have := h.ord; simp; omega), h.v8.keep2 k hsub (by have := h.ord; simp; omega), h.v9.keep2 k hsub (by have := h.ord; simp; omega), h.v10.keep2 k hsub (by have := h.ord; simp; omega), hv⟩
  simp only [List.mem_cons, List.not_mem_nil, or_false] at hk ⊢
  omega
theorem fill_out : ∀ (ds : List Tmp) (k : Nat) (vals : Nat → Value) (a : Act) (s : Tmp), s ∉ ds → (fill ds k vals a).eval (.tmp s) = a.eval (.tmp s)
  | [], _, _, _, _, _ => rfl
  | d :: ds, k, vals, a, s, h => by
    simp only [List.mem_cons, not_or] at h
    unfold fill
    rw [fill_out ds (k + 1) vals _ s h.2]
    exact Act.eval_put fun e he hxe => h.1 (by cases he; cases hxe; rfl)
theorem fill_in : ∀ (ds : List Tmp) (k i : Nat) (vals : Nat → Value) (a : Act) (d : Tmp), ds.Nodup → ds[i]? = some d → d < a.tmps.size → (fill ds k vals a).eval (.tmp d) = vals (k + i)
  | [], _, _, _, _, _, _, h, _ => by simp at h
  | e :: ds, k, 0, vals, a, d, hn, h, hs => by
    have he : e = d := by simpa using h
    subst he
    rw [List.nodup_cons] at hn
    unfold fill
    rw [fill_out ds (k + 1) vals _ e hn.1]
    simp [Act.eval, Act.put, hs]
  | e :: ds, k, i + 1, vals, a, d, hn, h, hs => by
    have h' : ds[i]? = some d := by simpa using h
    rw [List.nodup_cons] at hn
    unfold fill
    rw [fill_in ds (k + 1) i vals _ d hn.2 h' (by simpa [Act.put] using hs)]
    congr 1
    omega
/-- 'wp_region_flow' with the frame behind a letter. -/
theorem wp_region_flow2 {P : Program} {Q : Exit → Act → World → Prop} {id : Nat} {a : Act} {w : World} {l : List Oper} (n : Nat) (ds : List Tmp) (Φs : Nat → Value → World → Prop)
    (hm : P.follows .mixedOrders = true) (hB : flowB l n ds = true)
    (hs : ∀ i v w1 w2, i < n → Φs i v w1 → Below w1.heap.size w1 w2 → Φs i v w2)
    (hop : ∀ i o, i < n → l[i]? = some o → ∀ vals (F : Act) w', F = fill ds 0 vals a → Below w.heap.size w w' → (∀ e ∈ o.after, Region.binds .any e = true → Φs e.on (vals e.on) w') →
      o.wp P F w' (fun a'' w'' => ∃ v, a'' = F.put o.dst v ∧ Below w'.heap.size w' w'' ∧ Φs i v w'') Q)
    (hend : ∀ vals w', Below w.heap.size w w' → (∀ i, i < n → Φs i (vals i) w') → wpList P l.toArray Q (l.drop n) (fill ds 0 vals a) w') :
    (Code.region id l.toArray true).wp P Q a w :=
  wp_region_flow n ds Φs hm hB hs (fun i o hi ho vals w' hb hd => hop i o hi ho vals _ w' rfl hb hd) hend
end Go.Proofs.Qxb6601023a
