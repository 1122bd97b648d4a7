/-
  OWN WORK. rulebookForm (20): 'if board { .. proxy .. }' and what follows.
-/
import Derived.Test.Qxb6601023aTail17
import Derived.Deep.DeepMust
namespace Go.Proofs.Qxb6601023a
open Go.RowKit Go.Flow
set_option linter.unusedVariables false
set_option linter.unusedSimpArgs false

def bdProxy (board : Bool) : List (FTree 5) := if board then [bdProxyT] else []

/-- A variable's form stands when the list of tables has grown. -/
theorem VarForm.grown {n : Nat} {w w2 : World} {b g g' b2 : Nat} {t : FTree n} (h : VarForm [g, b2] n w b t) (hg : w.grownBy w2 (some g)) (hn : b ∉ [g, b2]) (hg' : g' = g ∨ g' = w.heap.size) : VarForm [g', b2] n w2 b t := by
  have h1 : VarForm (w.heap.size :: g :: [b2]) n w b t := h.shift fun k hk => by
    rcases List.mem_cons.1 hk with rfl | hk
    · exact .inr (Nat.le_refl _)
    · exact .inl hk
  have hlt := h.lt
  have hn' : b ∉ w.heap.size :: g :: [b2] := by
    simp only [List.mem_cons, not_or] at hn ⊢
    exact ⟨by omega, hn.1, hn.2⟩
  exact (h1.keep ((Keep.grown hg).mono fun k hk => by simp at hk; subst hk; simp) hn').shift fun k hk => .inl (by
    simp at hk
    rcases hk with rfl | rfl
    · rcases hg' with rfl | rfl <;> simp
    · simp)

set_option maxRecDepth 100000 in
set_option maxHeartbeats 1000000 in
theorem tail16no {w0 w : World} {ts : List (FTree 5)} {tb tn : FTree 5} {b2 b4 b5 b9 b10 b12 g : Nat} {st sb : Value} {css : List (List Value)} {bl : List ByteArray} {u0 u1 u4 u7 u8 u11 u14 u15 u16 u17 u18 u19 u20 u21 u22 u23 u24 u25 u26 u27 u28 u29 u30 u31 u32 u33 u34 u35 u36 u37 u38 u39 u40 u41 u42 u43 u44 u45 u46 u47 u48 u49 u50 u51 u52 u53 u54 u55 u56 u57 u58 u59 u60 u61 u62 u63 u64 u65 u66 u67 u68 u69 u70 u71 u72 u73 u74 u75 u76 u77 u78 u79 u80 u81 u82 u83 u84 u85 u86 u87 u88 u89 u90 u91 u92 u93 u94 u95 u96 u97 u98 u99 u100 u101 u102 u103 u104 u105 u106 u107 u108 u109 u110 u111 u112 u113 u114 u115 u116 u117 u118 u119 u120 u121 : Value} (h : St w0 w b2 b4 b5 bl g st sb css ts) (h9 : VarForm [g, b2] 5 w b9 tb) (h10 : VarForm [g, b2] 5 w b10 tn) (h12 : VarForm [g, b2] 4 w b12 (ruleT 3 true k_extra k_empty bl)) (n9 : b9 ∉ [g, b2]) (n10 : b10 ∉ [g, b2]) (n12 : b12 ∉ [g, b2]) (hlen : ts.length ≤ 50) :
    Code.wp Try.prog (dropSeq 16 (Try.f20.body.getD .skip)) (bodyPost Try.prog Try.f20 (Post20 w0 (topT (ts ++ five tb tn bl ++ bdEnd false)))) ⟨#[u0, u1, .pointer (some ⟨b2, 0, none⟩), .bool false, u4, .pointer (some ⟨b5, 0, none⟩), .func (.func 43) #[] #[.pointer (some ⟨b5, 0, none⟩)], u7, u8, .pointer (some ⟨b9, 0, none⟩), .pointer (some ⟨b10, 0, none⟩), u11, .pointer (some ⟨b12, 0, none⟩), st, u14, u15, u16, u17, u18, u19, u20, u21, u22, u23, u24, u25, u26, u27, u28, u29, u30, u31, u32, u33, u34, u35, u36, u37, u38, u39, u40, u41, u42, u43, u44, u45, u46, u47, u48, u49, u50, u51, u52, u53, u54, u55, u56, u57, u58, u59, u60, u61, u62, u63, u64, u65, u66, u67, u68, u69, u70, u71, u72, u73, u74, u75, u76, u77, u78, u79, u80, u81, u82, u83, u84, u85, u86, u87, u88, u89, u90, u91, u92, u93, u94, u95, u96, u97, u98, u99, u100, u101, u102, u103, u104, u105, u106, u107, u108, u109, u110, u111, u112, u113, u114, u115, u116, u117, u118, u119, u120, u121], []⟩ w := by
  conv => arg 2; whnf
  refine wp_seq_k fun K hK => ?_
  have HK : Hid (∀ a w, Code.wp Try.prog (dropSeq 17 (Try.f20.body.getD .skip)) (bodyPost Try.prog Try.f20 (Post20 w0 (topT (ts ++ five tb tn bl ++ bdEnd false)))) a w → K a w) := hK
  clear hK
  go_wp2
  exact HK.out _ _ (tail17 h h9 h10 h12 (by omega))

set_option maxRecDepth 100000 in
set_option maxHeartbeats 1000000 in
theorem tail16yes {w0 w : World} {ts : List (FTree 5)} {tb tn : FTree 5} {b2 b4 b5 b9 b10 b12 g : Nat} {st sb : Value} {css : List (List Value)} {bl : List ByteArray} {u0 u1 u4 u7 u8 u11 u14 u15 u16 u17 u18 u19 u20 u21 u22 u23 u24 u25 u26 u27 u28 u29 u30 u31 u32 u33 u34 u35 u36 u37 u38 u39 u40 u41 u42 u43 u44 u45 u46 u47 u48 u49 u50 u51 u52 u53 u54 u55 u56 u57 u58 u59 u60 u61 u62 u63 u64 u65 u66 u67 u68 u69 u70 u71 u72 u73 u74 u75 u76 u77 u78 u79 u80 u81 u82 u83 u84 u85 u86 u87 u88 u89 u90 u91 u92 u93 u94 u95 u96 u97 u98 u99 u100 u101 u102 u103 u104 u105 u106 u107 u108 u109 u110 u111 u112 u113 u114 u115 u116 u117 u118 u119 u120 u121 : Value} (h : St w0 w b2 b4 b5 bl g st sb css ts) (h9 : VarForm [g, b2] 5 w b9 tb) (h10 : VarForm [g, b2] 5 w b10 tn) (h12 : VarForm [g, b2] 4 w b12 (ruleT 3 true k_extra k_empty bl)) (n9 : b9 ∉ [g, b2]) (n10 : b10 ∉ [g, b2]) (n12 : b12 ∉ [g, b2]) (hlen : ts.length ≤ 50) :
    Code.wp Try.prog (dropSeq 16 (Try.f20.body.getD .skip)) (bodyPost Try.prog Try.f20 (Post20 w0 (topT (ts ++ [bdProxyT] ++ five tb tn bl ++ bdEnd true)))) ⟨#[u0, u1, .pointer (some ⟨b2, 0, none⟩), .bool true, u4, .pointer (some ⟨b5, 0, none⟩), .func (.func 43) #[] #[.pointer (some ⟨b5, 0, none⟩)], u7, u8, .pointer (some ⟨b9, 0, none⟩), .pointer (some ⟨b10, 0, none⟩), u11, .pointer (some ⟨b12, 0, none⟩), st, u14, u15, u16, u17, u18, u19, u20, u21, u22, u23, u24, u25, u26, u27, u28, u29, u30, u31, u32, u33, u34, u35, u36, u37, u38, u39, u40, u41, u42, u43, u44, u45, u46, u47, u48, u49, u50, u51, u52, u53, u54, u55, u56, u57, u58, u59, u60, u61, u62, u63, u64, u65, u66, u67, u68, u69, u70, u71, u72, u73, u74, u75, u76, u77, u78, u79, u80, u81, u82, u83, u84, u85, u86, u87, u88, u89, u90, u91, u92, u93, u94, u95, u96, u97, u98, u99, u100, u101, u102, u103, u104, u105, u106, u107, u108, u109, u110, u111, u112, u113, u114, u115, u116, u117, u118, u119, u120, u121], []⟩ w := by
  have hX : ∀ k ∈ [g, b2], k < w.heap.size := by
    intro k hk
    simp at hk
    rcases hk with rfl | rfl
    · exact h.tabs.base.2
    · exact h.var2.1
  have hsb : w0.heap.size ≤ w.heap.size := h.below.size
  have H : Hid (St w0 w b2 b4 b5 bl g st sb css ts) := h
  clear h
  conv => arg 2; whnf
  refine wp_seq_k fun K hK => ?_
  have HK : Hid (∀ a w, Code.wp Try.prog (dropSeq 17 (Try.f20.body.getD .skip)) (bodyPost Try.prog Try.f20 (Post20 w0 (topT (ts ++ [bdProxyT] ++ five tb tn bl ++ bdEnd true)))) a w → K a w) := hK
  clear hK
  go_wp2_with (at_builtin; go_must (refine wpl_append_lit (v := st) rfl _ _ rfl rfl rfl w0.heap.size g [b2] css ts ?hT ?hB rfl rfl ?hnm ?hbase ?hrest; (case hT => (refine H.out.tabs.keep ?_); (iterate 3 (refine Keep.alloc ?_ _)); (exact Keep.refl _ _)); (case hB => simp); (case hnm => omega); (case hbase => simp; omega); intro v' w2 hown2 hgrow hat))
  refine HK.out _ _ ?_
  have hbW : ∀ (A0 A1 A2 A3 : Obj), Below w.heap.size w ((((w.alloc A0).alloc A1).alloc A2).alloc A3) := fun _ _ _ _ => by
    iterate 4 (refine Below.alloc ?_ (by first | omega | (simp; done) | (simp; omega)) _)
    exact Below.refl _ _
  refine Exists.elim ((H.out.grow (hbW _ _ _ _)).append (nts := [bdProxyT]) (ncs := [_]) rfl (one_form rfl ?_) (by simp; omega) (by simpa using hown2) hgrow hat) ?_
  rotate_left
  · rintro g' ⟨hg', hS⟩
    have hgr := hgrow
    rw [H.out.tabs.at_] at hgr
    have hn' : ∀ b, b < w.heap.size → b ∉ [g, b2] → b ∉ [g', b2] := fun b hb hn => by
      simp only [List.mem_cons, not_or, List.not_mem_nil, not_false_eq_true, and_true] at hn ⊢
      refine ⟨?_, hn.2⟩
      rcases hg' with rfl | rfl
      · exact hn.1
      · simp; omega
    exact tail17 hS ((h9.keep (Keep.of_below (hbW _ _ _ _)) n9).grown hgr n9 hg') ((h10.keep (Keep.of_below (hbW _ _ _ _)) n10).grown hgr n10 hg') ((h12.keep (Keep.of_below (hbW _ _ _ _)) n12).grown hgr n12 hg') (by simp; omega)
  · refine ⟨_, _, _, _, _, _, _, rfl, ?k1, ?k2, noGroups _ _, Own.nil _ _ _ _, ?k4, Own.nil _ _ _ _, noForms _ _⟩
    case k1 => exact strsLit (l := [k_article]) (cs := #[.string k_article]) (by repeat (first | exact blk_top _ _ (by simp; done) | refine blk_under _ (by first | (simp; done) | (simp; omega)) ?_)) (not_mem_of_lt hX (by omega)) rfl (by decide) rfl rfl
    case k2 => exact strsLit (l := [k_max_held, k_independent_needs_independent, k_unrelated_needs_unrelated, k_instructions_required]) (cs := #[.string k_max_held, .string k_independent_needs_independent, .string k_unrelated_needs_unrelated, .string k_instructions_required]) (by repeat (first | exact blk_top _ _ (by simp; done) | refine blk_under _ (by first | (simp; done) | (simp; omega)) ?_)) (not_mem_of_lt hX (by omega)) rfl (by decide) rfl rfl
    case k4 => exact countsLit (l := [(k_max_held, k_proxies, 0)]) (cs := #[.string k_max_held, .string k_proxies, .int .i64 0]) (by repeat (first | exact blk_top _ _ (by simp; done) | refine blk_under _ (by first | (simp; done) | (simp; omega)) ?_)) (not_mem_of_lt hX (by omega)) rfl (by decide) rfl rfl

theorem tail16 {board : Bool} {w0 w : World} {ts : List (FTree 5)} {tb tn : FTree 5} {b2 b4 b5 b9 b10 b12 g : Nat} {st sb : Value} {css : List (List Value)} {bl : List ByteArray} {u0 u1 u4 u7 u8 u11 u14 u15 u16 u17 u18 u19 u20 u21 u22 u23 u24 u25 u26 u27 u28 u29 u30 u31 u32 u33 u34 u35 u36 u37 u38 u39 u40 u41 u42 u43 u44 u45 u46 u47 u48 u49 u50 u51 u52 u53 u54 u55 u56 u57 u58 u59 u60 u61 u62 u63 u64 u65 u66 u67 u68 u69 u70 u71 u72 u73 u74 u75 u76 u77 u78 u79 u80 u81 u82 u83 u84 u85 u86 u87 u88 u89 u90 u91 u92 u93 u94 u95 u96 u97 u98 u99 u100 u101 u102 u103 u104 u105 u106 u107 u108 u109 u110 u111 u112 u113 u114 u115 u116 u117 u118 u119 u120 u121 : Value} (h : St w0 w b2 b4 b5 bl g st sb css ts) (h9 : VarForm [g, b2] 5 w b9 tb) (h10 : VarForm [g, b2] 5 w b10 tn) (h12 : VarForm [g, b2] 4 w b12 (ruleT 3 true k_extra k_empty bl)) (n9 : b9 ∉ [g, b2]) (n10 : b10 ∉ [g, b2]) (n12 : b12 ∉ [g, b2]) (hlen : ts.length ≤ 50) :
    Code.wp Try.prog (dropSeq 16 (Try.f20.body.getD .skip)) (bodyPost Try.prog Try.f20 (Post20 w0 (topT (ts ++ bdProxy board ++ five tb tn bl ++ bdEnd board)))) ⟨#[u0, u1, .pointer (some ⟨b2, 0, none⟩), .bool board, u4, .pointer (some ⟨b5, 0, none⟩), .func (.func 43) #[] #[.pointer (some ⟨b5, 0, none⟩)], u7, u8, .pointer (some ⟨b9, 0, none⟩), .pointer (some ⟨b10, 0, none⟩), u11, .pointer (some ⟨b12, 0, none⟩), st, u14, u15, u16, u17, u18, u19, u20, u21, u22, u23, u24, u25, u26, u27, u28, u29, u30, u31, u32, u33, u34, u35, u36, u37, u38, u39, u40, u41, u42, u43, u44, u45, u46, u47, u48, u49, u50, u51, u52, u53, u54, u55, u56, u57, u58, u59, u60, u61, u62, u63, u64, u65, u66, u67, u68, u69, u70, u71, u72, u73, u74, u75, u76, u77, u78, u79, u80, u81, u82, u83, u84, u85, u86, u87, u88, u89, u90, u91, u92, u93, u94, u95, u96, u97, u98, u99, u100, u101, u102, u103, u104, u105, u106, u107, u108, u109, u110, u111, u112, u113, u114, u115, u116, u117, u118, u119, u120, u121], []⟩ w := by
  cases board with
  | false =>
    rw [show ts ++ bdProxy false = ts from List.append_nil ts]
    exact tail16no h h9 h10 h12 n9 n10 n12 hlen
  | true => exact tail16yes h h9 h10 h12 n9 n10 n12 hlen
end Go.Proofs.Qxb6601023a
