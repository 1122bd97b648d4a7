/-
  OWN WORK. rulebookForm (20): 'if board { .. deferral .. }' and what follows.
-/
import Derived.Test.Qxb6601023aTail
import Derived.Deep.DeepMust
namespace Go.Proofs.Qxb6601023a
open Go.RowKit Go.Flow
set_option linter.unusedVariables false


theorem strsLit {X : List Nat} {w : World} {B n : Nat} {cs : Array Value} {l : List ByteArray} (hb : w.heap[B]? = some (.cells cs 9 (0, 0))) (hX : B ∉ X) (hs : cs.size = n * 1) (hm : n ≤ 1000) (hl : l.length = n) (hx : cs.toList = l.map .string) (hpos : 0 < n := by first | decide | omega) : Strs X w (.slice (some ⟨B, 0, none⟩) n n) l := by
  unfold Strs
  rw [hl]
  exact Own.of_block hb hX (by unfold maxLen; omega) hs hx
theorem basesLit {X : List Nat} {w : World} {B n : Nat} {cs : Array Value} {l : List ByteArray} (hb : w.heap[B]? = some (.cells cs 54 (0, 0))) (hX : B ∉ X) (hs : cs.size = n * 1) (hm : n ≤ 1000) (hl : l.length = n) (hx : cs.toList = l.map .string) (hpos : 0 < n := by first | decide | omega) : Bases X w (.slice (some ⟨B, 0, none⟩) n n) l := by
  unfold Bases
  rw [hl]
  exact Own.of_block hb hX (by unfold maxLen; omega) hs hx
theorem countsLit {X : List Nat} {w : World} {B n : Nat} {cs : Array Value} {l : List (ByteArray × ByteArray × Int)} (hb : w.heap[B]? = some (.cells cs 57 (0, 0))) (hX : B ∉ X) (hs : cs.size = n * 3) (hm : n ≤ 1000) (hl : l.length = n) (hx : cs.toList = l.flatMap cellsOfCount) (hpos : 0 < n := by first | decide | omega) : Counts X w (.slice (some ⟨B, 0, none⟩) n n) l := by
  unfold Counts
  rw [hl]
  exact Own.of_block hb hX (by unfold maxLen; omega) hs hx
theorem formsLit {X : List Nat} {w : World} {B k n : Nat} {cs : Array Value} (css : List (List Value)) {ts : List (FTree k)} (hb : w.heap[B]? = some (.cells cs 30 (0, 0))) (hX : B ∉ X) (hs : cs.size = n * 11) (hm : n ≤ 1000) (hl : ts.length = n) (hx : cs.toList = css.flatten) (hc : css.length = n)
    (h : ∀ (i : Nat) (c : List Value) (t : FTree k), css[i]? = some c → ts[i]? = some t → c.length = 11 ∧ FormIs X k w (.agg c.toArray) t) (hpos : 0 < n := by first | decide | omega) : Forms (FormIs X k w) X w (.slice (some ⟨B, 0, none⟩) n n) ts := by
  refine ⟨css, ?_, by omega, h⟩
  rw [hl]
  exact Own.of_block hb hX (by unfold maxLen; omega) hs hx
theorem noGroups (X : List Nat) (w : World) : Groups X w (.slice none 0 0) [] := ⟨[], Own.nil _ _ _ _, rfl, fun i v l h => by simp at h⟩
theorem noForms {k : Nat} (X : List Nat) (w : World) : Forms (FormIs X k w) X w (.slice none 0 0) [] := ⟨[], Own.nil _ _ _ _, rfl, fun i v l h => by simp at h⟩
theorem one_form {X : List Nat} {k : Nat} {w : World} {c : List Value} {t : FTree k} (hl : c.length = 11) (h : FormIs X k w (.agg c.toArray) t) : ∀ (i : Nat) (c' : List Value) (t' : FTree k), [c][i]? = some c' → [t][i]? = some t' → c'.length = 11 ∧ FormIs X k w (.agg c'.toArray) t' := by
  intro i c' t' h1 h2
  match i, h1, h2 with
  | 0, h1, h2 => simp at h1 h2; subst h1 h2; exact ⟨hl, h⟩

set_option maxRecDepth 100000 in
set_option maxHeartbeats 1000000 in
theorem tail18no {w0 w : World} {ts : List (FTree 5)} {b2 : Nat} {st : Value} {c0 c1 c2 c3 c4 c5 c6 c7 c8 c9 c10 : Value} {u0 u1 u4 u5 u6 u7 u8 u9 u10 u11 u12 u14 u15 u16 u17 u18 u19 u20 u21 u22 u23 u24 u25 u26 u27 u28 u29 u30 u31 u32 u33 u34 u35 u36 u37 u38 u39 u40 u41 u42 u43 u44 u45 u46 u47 u48 u49 u50 u51 u52 u53 u54 u55 u56 u57 u58 u59 u60 u61 u62 u63 u64 u65 u66 u67 u68 u69 u70 u71 u72 u73 u74 u75 u76 u77 u78 u79 u80 u81 u82 u83 u84 u85 u86 u87 u88 u89 u90 u91 u92 u93 u94 u95 u96 u97 u98 u99 u100 u101 u102 u103 u104 u105 u106 u107 u108 u109 u110 u111 u112 u113 u114 u115 u116 u117 u118 u119 u120 u121 : Value}
    (hb : Below w0.heap.size w0 w) (h0 : w0.heap.size ≤ b2) (hv : VarB w b2 #[c0, c1, c2, c3, c4, c5, c6, c7, c8, c9, c10]) (ht : Forms (FormIs [b2] 5 w) [b2] w st ts) :
    Code.wp Try.prog (dropSeq 18 (Try.f20.body.getD .skip)) (bodyPost Try.prog Try.f20 (Post20 w0 (topT ts))) ⟨#[u0, u1, .pointer (some ⟨b2, 0, none⟩), .bool false, u4, u5, u6, u7, u8, u9, u10, u11, u12, st, u14, u15, u16, u17, u18, u19, u20, u21, u22, u23, u24, u25, u26, u27, u28, u29, u30, u31, u32, u33, u34, u35, u36, u37, u38, u39, u40, u41, u42, u43, u44, u45, u46, u47, u48, u49, u50, u51, u52, u53, u54, u55, u56, u57, u58, u59, u60, u61, u62, u63, u64, u65, u66, u67, u68, u69, u70, u71, u72, u73, u74, u75, u76, u77, u78, u79, u80, u81, u82, u83, u84, u85, u86, u87, u88, u89, u90, u91, u92, u93, u94, u95, u96, u97, u98, u99, u100, u101, u102, u103, u104, u105, u106, u107, u108, u109, u110, u111, u112, u113, u114, u115, u116, u117, u118, u119, u120, u121], []⟩ w := by
  conv => arg 2; whnf
  refine wp_seq_k fun K hK => ?_
  have HK : Hid (∀ a w, Code.wp Try.prog (dropSeq 19 (Try.f20.body.getD .skip)) (bodyPost Try.prog Try.f20 (Post20 w0 (topT ts))) a w → K a w) := hK
  clear hK
  go_wp2
  exact HK.out _ _ (tail19 hb h0 hv ht)

set_option maxRecDepth 100000 in
set_option maxHeartbeats 1000000 in
theorem tail18yes {w0 w : World} {ts : List (FTree 5)} {b2 b4 b5 g : Nat} {st sb : Value} {css : List (List Value)} {bl : List ByteArray} {c0 c1 c2 c3 c4 c5 c6 c7 c8 c9 c10 : Value} {u0 u1 u4 u6 u7 u8 u9 u10 u11 u12 u14 u15 u16 u17 u18 u19 u20 u21 u22 u23 u24 u25 u26 u27 u28 u29 u30 u31 u32 u33 u34 u35 u36 u37 u38 u39 u40 u41 u42 u43 u44 u45 u46 u47 u48 u49 u50 u51 u52 u53 u54 u55 u56 u57 u58 u59 u60 u61 u62 u63 u64 u65 u66 u67 u68 u69 u70 u71 u72 u73 u74 u75 u76 u77 u78 u79 u80 u81 u82 u83 u84 u85 u86 u87 u88 u89 u90 u91 u92 u93 u94 u95 u96 u97 u98 u99 u100 u101 u102 u103 u104 u105 u106 u107 u108 u109 u110 u111 u112 u113 u114 u115 u116 u117 u118 u119 u120 u121 : Value}
    (hb : Below w0.heap.size w0 w) (h0 : w0.heap.size ≤ b2) (hv : VarB w b2 #[c0, c1, c2, c3, c4, c5, c6, c7, c8, c9, c10]) (ht : Tabs w0.heap.size g [b2] w st css ts) (htl : ts.length ≤ 1000)
    (h5 : w.cell? ⟨b5, 0, none⟩ = some (.func (.func 42) #[] #[.pointer (some ⟨b4, 0, none⟩)])) (hl5 : b5 < w.heap.size)
    (h4 : w.cell? ⟨b4, 0, none⟩ = some sb) (hl4 : b4 < w.heap.size) (hbs : Bases [g, b2] w sb bl) :
    Code.wp Try.prog (dropSeq 18 (Try.f20.body.getD .skip)) (bodyPost Try.prog Try.f20 (Post20 w0 (topT (ts ++ [bdDeferralT])))) ⟨#[u0, u1, .pointer (some ⟨b2, 0, none⟩), .bool true, u4, .pointer (some ⟨b5, 0, none⟩), u6, u7, u8, u9, u10, u11, u12, st, u14, u15, u16, u17, u18, u19, u20, u21, u22, u23, u24, u25, u26, u27, u28, u29, u30, u31, u32, u33, u34, u35, u36, u37, u38, u39, u40, u41, u42, u43, u44, u45, u46, u47, u48, u49, u50, u51, u52, u53, u54, u55, u56, u57, u58, u59, u60, u61, u62, u63, u64, u65, u66, u67, u68, u69, u70, u71, u72, u73, u74, u75, u76, u77, u78, u79, u80, u81, u82, u83, u84, u85, u86, u87, u88, u89, u90, u91, u92, u93, u94, u95, u96, u97, u98, u99, u100, u101, u102, u103, u104, u105, u106, u107, u108, u109, u110, u111, u112, u113, u114, u115, u116, u117, u118, u119, u120, u121], []⟩ w := by
  have hX : ∀ k ∈ [g, b2], k < w.heap.size := by
    intro k hk
    simp at hk
    rcases hk with rfl | rfl
    · exact ht.base.2
    · exact hv.1
  have HT : Hid (Tabs w0.heap.size g [b2] w st css ts) := ht
  have HV : Hid (VarB w b2 #[c0, c1, c2, c3, c4, c5, c6, c7, c8, c9, c10]) := hv
  clear hv ht
  conv => arg 2; whnf
  refine wp_seq_k fun K hK => ?_
  have HK : Hid (∀ a w, Code.wp Try.prog (dropSeq 19 (Try.f20.body.getD .skip)) (bodyPost Try.prog Try.f20 (Post20 w0 (topT (ts ++ [bdDeferralT])))) a w → K a w) := hK
  clear hK
  go_wp2_with fail
  refine (thr42 (X := [g, b2]) k_attending k_empty b4 hX h4 hl4 hbs).mono ?_
  rintro e w1 ⟨v, rfl, hf, hbel, hsz⟩
  obtain ⟨a4, n4, d4, a5, n5, d5, a6, n6, d6, a7, n7, d7, a8, n8, d8, a9, n9, d9, a10, n10, d10, rfl, i1, i2, i3, i4, i5, i6, i7⟩ := (hf 3).open
  clear hf
  simp only [thrT] at *
  have hk1 : ∀ W, Keep [b2] w1 W → Tabs w0.heap.size g [b2] W st css ts := fun W h => (HT.out.keep (Keep.of_below hbel)).keep h
  have hsb : w0.heap.size ≤ w1.heap.size := Nat.le_trans hb.size hbel.size
  go_wp2_with (at_builtin; go_must (refine wpl_append_lit (v := st) rfl _ _ rfl rfl rfl w0.heap.size g [b2] css ts ?hT ?hB rfl rfl ?hnm ?hbase ?hrest; (case hT => (refine hk1 _ ?_); (iterate 7 (refine Keep.alloc ?_ _)); (exact Keep.refl _ _)); (case hB => simp [hsz]); (case hnm => omega); (case hbase => simp; omega); intro v' w2 hown2 hgrow hat))
  refine HK.out _ _ ?_
  have hX1 : ∀ k ∈ [g, b2], k < w1.heap.size := fun k hk => by have := hX k hk; omega
  have hkW : ∀ (Y : List Nat) (A0 A1 A2 A3 A4 A5 A6 A7 : Obj), Keep Y w1 ((((((((w1.alloc A0).alloc A1).alloc A2).alloc A3).alloc A4).alloc A5).alloc A6).alloc A7) := fun Y _ _ _ _ _ _ _ _ => by
    iterate 8 (refine Keep.alloc ?_ _)
    exact Keep.refl _ _
  have hg2 : b2 ≠ g := fun e => HT.out.out (by simp [e])
  refine Exists.elim ((hk1 _ (hkW [b2] _ _ _ _ _ _ _ _)).append (fun k hk => by have := hX1 k (by simp at hk ⊢; exact .inr hk); simp; omega) [_] [bdDeferralT] rfl (one_form rfl ?_) (by simpa using hown2) hgrow hat) ?_
  rotate_left
  · rintro g' ⟨-, hT'⟩
    have hgr := hgrow
    rw [HT.out.at_] at hgr
    have hV2 := ((HV.out.keep (Keep.of_below hbel) (X := []) (by simp)).keep (hkW [] _ _ _ _ _ _ _ _) (by simp)).keep (Keep.grown hgr) (by simpa using hg2)
    refine tail19 ?_ h0 hV2 hT'.forms
    refine Below.grown (((hb.trans (hbel.mono hb.size))).trans ?_) hgrow (by simp; omega) (fun k hk => ?_)
    · iterate 8 (refine Below.alloc ?_ (by first | omega | (simp; omega)) _)
      exact Below.refl _ _
    · rw [HT.out.at_] at hk
      cases hk
      exact HT.out.base.1
  · refine ⟨_, _, _, _, _, _, _, rfl, ?k1, ?k2, noGroups _ _, ?k3, ?k4, Own.nil _ _ _ _, ?k5⟩
    case k1 => exact strsLit (l := [k_article]) (cs := #[.string k_article]) (by repeat (first | exact blk_top _ _ (by simp [hsz]) | refine blk_under _ (by simp [hsz]) ?_)) (not_mem_of_lt hX (by omega)) rfl (by decide) rfl rfl
    case k2 => exact strsLit (l := [k_independent]) (cs := #[.string k_independent]) (by repeat (first | exact blk_top _ _ (by simp [hsz]) | refine blk_under _ (by simp [hsz]) ?_)) (not_mem_of_lt hX (by omega)) rfl (by decide) rfl rfl
    case k3 => exact strsLit (l := [k_independent, k_attending]) (cs := #[.string k_independent, .string k_attending]) (by repeat (first | exact blk_top _ _ (by simp [hsz]) | refine blk_under _ (by simp [hsz]) ?_)) (not_mem_of_lt hX (by omega)) rfl (by decide) rfl rfl
    case k4 => exact countsLit (l := [(k_independent, k_indepdirs, 1)]) (cs := #[.string k_independent, .string k_indepdirs, .int .i64 1]) (by repeat (first | exact blk_top _ _ (by simp [hsz]) | refine blk_under _ (by simp [hsz]) ?_)) (not_mem_of_lt hX (by omega)) rfl (by decide) rfl rfl
    case k5 =>
      refine formsLit (cs := #[.string k_attending, .bool false, .string k_empty, .string k_no_rule, .slice a4 n4 d4, .slice a5 n5 d5, .slice a6 n6 d6, .slice a7 n7 d7, .slice a8 n8 d8, .slice (some ⟨w.heap.size + 2 + 1, 0, none⟩) 1 1, .slice a10 n10 d10]) [_] (by repeat (first | exact blk_top _ _ (by simp [hsz]) | refine blk_under _ (by simp [hsz]) ?_)) (not_mem_of_lt hX (by omega)) rfl (by decide) rfl (List.append_nil _).symm rfl (one_form rfl ?_)
      have hk := hkW [g, b2]
      refine ⟨_, _, _, _, _, _, _, rfl, i1.keep (hk _ _ _ _ _ _ _ _), i2.keep (hk _ _ _ _ _ _ _ _), i3.keep (hk _ _ _ _ _ _ _ _), i4.keep (hk _ _ _ _ _ _ _ _), i5.keep (hk _ _ _ _ _ _ _ _), ?_, i7.keep (hk _ _ _ _ _ _ _ _) fun _ _ h => h.keep (hk _ _ _ _ _ _ _ _)⟩
      exact basesLit (l := [k_attending]) (cs := #[.string k_attending]) (by repeat (first | exact blk_top _ _ (by simp [hsz]) | refine blk_under _ (by simp [hsz]) ?_)) (not_mem_of_lt hX (by omega)) rfl (by decide) rfl rfl

/-- A variable in block b that holds the form t. -/
def VarForm (X : List Nat) (n : Nat) (w : World) (b : Nat) (t : FTree n) : Prop := ∃ cs, VarB w b cs ∧ FormIs X n w (.agg cs) t
theorem VarForm.keep {X : List Nat} {n : Nat} {w w' : World} {b : Nat} {t : FTree n} (h : VarForm X n w b t) (k : Keep X w w') (hb : b ∉ X) : VarForm X n w' b t :=
  let ⟨cs, h1, h2⟩ := h
  ⟨cs, h1.keep k hb, h2.keep k⟩
theorem VarForm.lt {X : List Nat} {n : Nat} {w : World} {b : Nat} {t : FTree n} (h : VarForm X n w b t) : b < w.heap.size := let ⟨_, h1, _⟩ := h; h1.1
theorem VarForm.shift {X X' : List Nat} {n : Nat} {w : World} {b : Nat} {t : FTree n} (h : VarForm X n w b t) (hx : ∀ k ∈ X', k ∈ X ∨ w.heap.size ≤ k) : VarForm X' n w b t :=
  let ⟨cs, h1, h2⟩ := h
  ⟨cs, h1, h2.shift hx⟩

/-- The state while the list of tables grows. -/
structure St (w0 w : World) (b2 b4 b5 : Nat) (bl : List ByteArray) (g : Nat) (st sb : Value) (css : List (List Value)) (ts : List (FTree 5)) : Prop where
  below : Below w0.heap.size w0 w
  low : w0.heap.size ≤ b2
  var2 : VarB w b2 #[.string k_empty, .bool false, .string k_empty, .string k_empty, .slice none 0 0, .slice none 0 0, .slice none 0 0, .slice none 0 0, .slice none 0 0, .slice none 0 0, .slice none 0 0]
  tabs : Tabs w0.heap.size g [b2] w st css ts
  len : ts.length ≤ 1000
  c5 : w.cell? ⟨b5, 0, none⟩ = some (.func (.func 42) #[] #[.pointer (some ⟨b4, 0, none⟩)])
  l5 : b5 < w.heap.size
  c4 : w.cell? ⟨b4, 0, none⟩ = some sb
  l4 : b4 < w.heap.size
  bases : Bases [g, b2] w sb bl
  ne5 : b5 ≠ g
  ne4 : b4 ≠ g

/-- Something has been appended to the list of tables. -/
theorem St.append {w0 w w2 : World} {b2 b4 b5 : Nat} {bl : List ByteArray} {g : Nat} {st sb v' : Value} {css ncs : List (List Value)} {ts nts : List (FTree 5)} (h : St w0 w b2 b4 b5 bl g st sb css ts)
    (hl : ncs.length = nts.length) (hnew : ∀ (i : Nat) (cs : List Value) (t : FTree 5), ncs[i]? = some cs → nts[i]? = some t → cs.length = 11 ∧ FormIs [g, b2] 5 w (.agg cs.toArray) t) (hlen : ts.length + nts.length ≤ 1000)
    (hown : w2.ownsRow w0.heap.size 30 11 v' (ts.length + nts.length) (css.flatten ++ ncs.flatten)) (hg : w.grownBy w2 st.ownBlock) (hat : v'.ownBlock = st.ownBlock ∨ v'.ownBlock = some w.heap.size) :
    ∃ g', (g' = g ∨ g' = w.heap.size) ∧ St w0 w2 b2 b4 b5 bl g' v' sb (css ++ ncs) (ts ++ nts) := by
  have hb2 : b2 < w.heap.size := h.var2.1
  have hgl := h.tabs.base
  have hne : b2 ≠ g := fun e => h.tabs.out (by simp [e])
  obtain ⟨g', hg', hT⟩ := h.tabs.append (fun k hk => by simp at hk; subst hk; exact hb2) ncs nts hl hnew hown hg hat
  have hgr := hg
  rw [h.tabs.at_] at hgr
  have hk := Keep.grown hgr
  refine ⟨g', hg', ?_, h.low, h.var2.keep hk (by simpa using hne), hT, by simp; omega, ?_, Nat.lt_of_lt_of_le h.l5 hk.size, ?_, Nat.lt_of_lt_of_le h.l4 hk.size, ?_, ?_, ?_⟩
  · refine Below.grown h.below hg h.below.size (fun k hk => ?_)
    rw [h.tabs.at_] at hk
    cases hk
    exact hgl.1
  · rw [hgr.cell_far ⟨b5, 0, none⟩ h.l5 (by simpa using h.ne5)]; exact h.c5
  · rw [hgr.cell_far ⟨b4, 0, none⟩ h.l4 (by simpa using h.ne4)]; exact h.c4
  · have h1 : Bases (w.heap.size :: g :: [b2]) w sb bl := h.bases.shift fun k hk => by
      rcases List.mem_cons.1 hk with rfl | hk
      · exact .inr (Nat.le_refl _)
      · exact .inl hk
    exact (h1.keep (hk.mono fun k hk => by simp at hk; subst hk; simp)).shift fun k hk => .inl (by
      simp at hk
      rcases hk with rfl | rfl
      · rcases hg' with rfl | rfl <;> simp
      · simp)
  · rcases hg' with rfl | rfl
    · exact h.ne5
    · have := h.l5; omega
  · rcases hg' with rfl | rfl
    · exact h.ne4
    · have := h.l4; omega
theorem St.grow {w0 w w2 : World} {b2 b4 b5 : Nat} {bl : List ByteArray} {g : Nat} {st sb : Value} {css : List (List Value)} {ts : List (FTree 5)} (h : St w0 w b2 b4 b5 bl g st sb css ts) (hb : Below w.heap.size w w2) : St w0 w2 b2 b4 b5 bl g st sb css ts :=
  ⟨h.below.trans (hb.mono h.below.size), h.low, h.var2.keep (Keep.of_below hb) (X := []) (by simp), h.tabs.keep (Keep.of_below hb), h.len, cell_up hb h.l5 h.c5, Nat.lt_of_lt_of_le h.l5 hb.size, cell_up hb h.l4 h.c4, Nat.lt_of_lt_of_le h.l4 hb.size, h.bases.keep (Keep.of_below hb), h.ne5, h.ne4⟩

def bdEnd (board : Bool) : List (FTree 5) := if board then [bdDeferralT] else []

theorem tail18 {w0 w : World} {ts : List (FTree 5)} {board : Bool} {b2 b4 b5 g : Nat} {st sb : Value} {css : List (List Value)} {bl : List ByteArray} {u0 u1 u4 u6 u7 u8 u9 u10 u11 u12 u14 u15 u16 u17 u18 u19 u20 u21 u22 u23 u24 u25 u26 u27 u28 u29 u30 u31 u32 u33 u34 u35 u36 u37 u38 u39 u40 u41 u42 u43 u44 u45 u46 u47 u48 u49 u50 u51 u52 u53 u54 u55 u56 u57 u58 u59 u60 u61 u62 u63 u64 u65 u66 u67 u68 u69 u70 u71 u72 u73 u74 u75 u76 u77 u78 u79 u80 u81 u82 u83 u84 u85 u86 u87 u88 u89 u90 u91 u92 u93 u94 u95 u96 u97 u98 u99 u100 u101 u102 u103 u104 u105 u106 u107 u108 u109 u110 u111 u112 u113 u114 u115 u116 u117 u118 u119 u120 u121 : Value} (h : St w0 w b2 b4 b5 bl g st sb css ts) :
    Code.wp Try.prog (dropSeq 18 (Try.f20.body.getD .skip)) (bodyPost Try.prog Try.f20 (Post20 w0 (topT (ts ++ bdEnd board)))) ⟨#[u0, u1, .pointer (some ⟨b2, 0, none⟩), .bool board, u4, .pointer (some ⟨b5, 0, none⟩), u6, u7, u8, u9, u10, u11, u12, st, u14, u15, u16, u17, u18, u19, u20, u21, u22, u23, u24, u25, u26, u27, u28, u29, u30, u31, u32, u33, u34, u35, u36, u37, u38, u39, u40, u41, u42, u43, u44, u45, u46, u47, u48, u49, u50, u51, u52, u53, u54, u55, u56, u57, u58, u59, u60, u61, u62, u63, u64, u65, u66, u67, u68, u69, u70, u71, u72, u73, u74, u75, u76, u77, u78, u79, u80, u81, u82, u83, u84, u85, u86, u87, u88, u89, u90, u91, u92, u93, u94, u95, u96, u97, u98, u99, u100, u101, u102, u103, u104, u105, u106, u107, u108, u109, u110, u111, u112, u113, u114, u115, u116, u117, u118, u119, u120, u121], []⟩ w := by
  cases board with
  | false =>
    rw [show ts ++ bdEnd false = ts from List.append_nil ts]
    exact tail18no h.below h.low h.var2 h.tabs.forms
  | true => exact tail18yes h.below h.low h.var2 h.tabs h.len h.c5 h.l5 h.c4 h.l4 h.bases
end Go.Proofs.Qxb6601023a
