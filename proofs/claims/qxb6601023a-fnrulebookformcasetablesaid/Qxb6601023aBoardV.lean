/-
  OWN WORK. rulebookForm (20) at a board: quorum's, ballot's and notice's turns.
-/
import Derived.Test.Qxb6601023aBoard14
namespace Go.Proofs.Qxb6601023a
open Go.RowKit Go.Flow
set_option linter.unusedVariables false
set_option linter.unusedSimpArgs false

theorem groupsLit {X : List Nat} {w : World} {B n : Nat} {cs : Array Value} {gs : List (List ByteArray)} (hb : w.heap[B]? = some (.cells cs 24 (0, 0))) (hX : B ∉ X) (hs : cs.size = n * 1) (hm : n ≤ 1000) (hl : gs.length = n)
    (h : ∀ (i : Nat) (v : Value) (l : List ByteArray), cs.toList[i]? = some v → gs[i]? = some l → Strs X w v l) (hpos : 0 < n := by first | decide | omega) : Groups X w (.slice (some ⟨B, 0, none⟩) n n) gs := by
  refine ⟨cs.toList, ?_, by simp; omega, h⟩
  rw [hl]
  exact Own.of_block hb hX (by unfold maxLen; omega) hs rfl

set_option maxRecDepth 100000 in
set_option maxHeartbeats 1000000 in
theorem bR13 {w0 w : World} {b2 b4 b5 b7 b8 b9 b10 b11 : Nat} {sb : Value} {t7 t8 t9 t10 : FTree 5} {t11 : FTree 4} {u0 u1 u4 u12 u13 u14 u15 u16 u17 u18 u19 u20 u21 u22 u23 u24 u25 u26 u27 u28 u29 u30 u31 u32 u33 u34 u35 u36 u37 u38 u39 u40 u41 u42 u43 u44 u45 u46 u47 u48 u49 u50 u51 u52 u53 u54 u55 u56 u57 u58 u59 u60 u61 u62 u63 u64 u65 u66 u67 u68 u69 u70 u71 u72 u73 u74 u75 u76 u77 u78 u79 u80 u81 u82 u83 u84 u85 u86 u87 u88 u89 u90 u91 u92 u93 u94 u95 u96 u97 u98 u99 u100 u101 u102 u103 u104 u105 u106 u107 u108 u109 u110 u111 u112 u113 u114 u115 u116 u117 u118 u119 u120 u121 : Value} {Qx : Exit → Act → World → Prop} (h : S1 w0 w b2 b4 b5 b7 b8 b9 b10 b11 bbL sb (ruleT 4 false k_quorum k_empty bbL) t8 t9 t10 t11)
    (hQ : ∀ (u0 u1 u4 u12 u13 u14 u15 u16 u17 u18 u19 u20 u21 u22 u23 u24 u25 u26 u27 u28 u29 u30 u31 u32 u33 u34 u35 u36 u37 u38 u39 u40 u41 u42 u43 u44 u45 u46 u47 u48 u49 u50 u51 u52 u53 u54 u55 u56 u57 u58 u59 u60 u61 u62 u63 u64 u65 u66 u67 u68 u69 u70 u71 u72 u73 u74 u75 u76 u77 u78 u79 u80 u81 u82 u83 u84 u85 u86 u87 u88 u89 u90 u91 u92 u93 u94 u95 u96 u97 u98 u99 u100 u101 u102 u103 u104 u105 u106 u107 u108 u109 u110 u111 u112 u113 u114 u115 u116 u117 u118 u119 u120 u121 : Value) (w' : World), S1 w0 w' b2 b4 b5 b7 b8 b9 b10 b11 bbL sb (ruleT 4 false k_quorum k_aboards bbL) t8 t9 t10 t11 → Qx .normal ⟨#[u0, u1, .pointer (some ⟨b2, 0, none⟩), .bool true, u4, .pointer (some ⟨b5, 0, none⟩), .func (.func 43) #[] #[.pointer (some ⟨b5, 0, none⟩)], .pointer (some ⟨b7, 0, none⟩), .pointer (some ⟨b8, 0, none⟩), .pointer (some ⟨b9, 0, none⟩), .pointer (some ⟨b10, 0, none⟩), .pointer (some ⟨b11, 0, none⟩), u12, u13, u14, u15, u16, u17, u18, u19, u20, u21, u22, u23, u24, u25, u26, u27, u28, u29, u30, u31, u32, u33, u34, u35, u36, u37, u38, u39, u40, u41, u42, u43, u44, u45, u46, u47, u48, u49, u50, u51, u52, u53, u54, u55, u56, u57, u58, u59, u60, u61, u62, u63, u64, u65, u66, u67, u68, u69, u70, u71, u72, u73, u74, u75, u76, u77, u78, u79, u80, u81, u82, u83, u84, u85, u86, u87, u88, u89, u90, u91, u92, u93, u94, u95, u96, u97, u98, u99, u100, u101, u102, u103, u104, u105, u106, u107, u108, u109, u110, u111, u112, u113, u114, u115, u116, u117, u118, u119, u120, u121], []⟩ w') :
    Code.wp Try.prog (headOf (dropSeq 0 (thenOf (headOf (dropSeq 11 (Try.f20.body.getD .skip)))))) Qx ⟨#[u0, u1, .pointer (some ⟨b2, 0, none⟩), .bool true, u4, .pointer (some ⟨b5, 0, none⟩), .func (.func 43) #[] #[.pointer (some ⟨b5, 0, none⟩)], .pointer (some ⟨b7, 0, none⟩), .pointer (some ⟨b8, 0, none⟩), .pointer (some ⟨b9, 0, none⟩), .pointer (some ⟨b10, 0, none⟩), .pointer (some ⟨b11, 0, none⟩), u12, u13, u14, u15, u16, u17, u18, u19, u20, u21, u22, u23, u24, u25, u26, u27, u28, u29, u30, u31, u32, u33, u34, u35, u36, u37, u38, u39, u40, u41, u42, u43, u44, u45, u46, u47, u48, u49, u50, u51, u52, u53, u54, u55, u56, u57, u58, u59, u60, u61, u62, u63, u64, u65, u66, u67, u68, u69, u70, u71, u72, u73, u74, u75, u76, u77, u78, u79, u80, u81, u82, u83, u84, u85, u86, u87, u88, u89, u90, u91, u92, u93, u94, u95, u96, u97, u98, u99, u100, u101, u102, u103, u104, u105, u106, u107, u108, u109, u110, u111, u112, u113, u114, u115, u116, u117, u118, u119, u120, u121], []⟩ w := by
  have hX := h.lt
  have hlow := h.ord
  have hbel := h.s0.below
  have hbs := hbel.size
  obtain ⟨cs0, hv, hf⟩ := h.v7
  obtain ⟨pa4, pn4, pd4, pa5, pn5, pd5, pa6, pn6, pd6, pa7, pn7, pd7, pa8, pn8, pd8, pa9, pn9, pd9, pa10, pn10, pd10, e0, i1, i2, i3, i4, i5, i6, i7⟩ := hf.open
  cases e0
  have HV : Hid (VarB w b7 _) := hv
  obtain ⟨l0, c0, f0⟩ := hv
  have HQ := hQ
  clear hQ
  have HQ' : Hid (∀ (u0 u1 u4 u12 u13 u14 u15 u16 u17 u18 u19 u20 u21 u22 u23 u24 u25 u26 u27 u28 u29 u30 u31 u32 u33 u34 u35 u36 u37 u38 u39 u40 u41 u42 u43 u44 u45 u46 u47 u48 u49 u50 u51 u52 u53 u54 u55 u56 u57 u58 u59 u60 u61 u62 u63 u64 u65 u66 u67 u68 u69 u70 u71 u72 u73 u74 u75 u76 u77 u78 u79 u80 u81 u82 u83 u84 u85 u86 u87 u88 u89 u90 u91 u92 u93 u94 u95 u96 u97 u98 u99 u100 u101 u102 u103 u104 u105 u106 u107 u108 u109 u110 u111 u112 u113 u114 u115 u116 u117 u118 u119 u120 u121 : Value) (w' : World), S1 w0 w' b2 b4 b5 b7 b8 b9 b10 b11 bbL sb (ruleT 4 false k_quorum k_aboards bbL) t8 t9 t10 t11 → Qx .normal ⟨#[u0, u1, .pointer (some ⟨b2, 0, none⟩), .bool true, u4, .pointer (some ⟨b5, 0, none⟩), .func (.func 43) #[] #[.pointer (some ⟨b5, 0, none⟩)], .pointer (some ⟨b7, 0, none⟩), .pointer (some ⟨b8, 0, none⟩), .pointer (some ⟨b9, 0, none⟩), .pointer (some ⟨b10, 0, none⟩), .pointer (some ⟨b11, 0, none⟩), u12, u13, u14, u15, u16, u17, u18, u19, u20, u21, u22, u23, u24, u25, u26, u27, u28, u29, u30, u31, u32, u33, u34, u35, u36, u37, u38, u39, u40, u41, u42, u43, u44, u45, u46, u47, u48, u49, u50, u51, u52, u53, u54, u55, u56, u57, u58, u59, u60, u61, u62, u63, u64, u65, u66, u67, u68, u69, u70, u71, u72, u73, u74, u75, u76, u77, u78, u79, u80, u81, u82, u83, u84, u85, u86, u87, u88, u89, u90, u91, u92, u93, u94, u95, u96, u97, u98, u99, u100, u101, u102, u103, u104, u105, u106, u107, u108, u109, u110, u111, u112, u113, u114, u115, u116, u117, u118, u119, u120, u121], []⟩ w') := HQ
  clear HQ
  have G := h
  clear h
  have HI := And.intro G (And.intro i1 (And.intro i2 (And.intro i3 (And.intro i4 (And.intro i5 (And.intro i6 i7))))))
  clear i1 i2 i3 i4 i5 i6 i7 hf G
  conv => arg 2; whnf
  go_wp2
  refine HQ'.out _ _ _ _ _ _ _ _ _ _ _ _ _ _ _ _ _ _ _ _ _ _ _ _ _ _ _ _ _ _ _ _ _ _ _ _ _ _ _ _ _ _ _ _ _ _ _ _ _ _ _ _ _ _ _ _ _ _ _ _ _ _ _ _ _ _ _ _ _ _ _ _ _ _ _ _ _ _ _ _ _ _ _ _ _ _ _ _ _ _ _ _ _ _ _ _ _ _ _ _ _ _ _ _ _ _ _ _ _ _ _ _ _  _ ?_
  obtain ⟨G, i1, i2, i3, i4, i5, i6, i7⟩ := HI
  have kp : ∀ v, Keep [b7] w (w.setCell ⟨b7, 2, none⟩ v) := fun v => (Keep.refl _ _).setCell _ (by simp) _
  have kX : ∀ v, Keep [b11, b10, b9, b8, b7, b2] w (w.setCell ⟨b7, 2, none⟩ v) := fun v => (kp v).mono (by simp)
  exact G.put7 (hbel.setCell (by show w0.heap.size ≤ b7; omega) _) (kp _) ⟨_, HV.out.set (j := 2) _ (by simp), _, _, _, _, _, _, _, rfl, i1.keep (kX _), i2.keep (kX _), i3.keep (kX _), i4.keep (kX _), i5.keep (kX _), i6.keep (kX _), i7.keep (kX _) fun _ _ h => h.keep (kX _)⟩

set_option maxRecDepth 100000 in
set_option maxHeartbeats 1000000 in
theorem bR16 {w0 w : World} {b2 b4 b5 b7 b8 b9 b10 b11 : Nat} {sb : Value} {t7 t8 t9 t10 : FTree 5} {t11 : FTree 4} {u0 u1 u4 u12 u13 u14 u15 u16 u17 u18 u19 u20 u21 u22 u23 u24 u25 u26 u27 u28 u29 u30 u31 u32 u33 u34 u35 u36 u37 u38 u39 u40 u41 u42 u43 u44 u45 u46 u47 u48 u49 u50 u51 u52 u53 u54 u55 u56 u57 u58 u59 u60 u61 u62 u63 u64 u65 u66 u67 u68 u69 u70 u71 u72 u73 u74 u75 u76 u77 u78 u79 u80 u81 u82 u83 u84 u85 u86 u87 u88 u89 u90 u91 u92 u93 u94 u95 u96 u97 u98 u99 u100 u101 u102 u103 u104 u105 u106 u107 u108 u109 u110 u111 u112 u113 u114 u115 u116 u117 u118 u119 u120 u121 : Value} {Qx : Exit → Act → World → Prop} (h : S1 w0 w b2 b4 b5 b7 b8 b9 b10 b11 bbL sb t7 t8 t9 (noticeT [k_annual_days, k_extraordinary_days, k_day_count, k_article] [(k_annual_days, k_days, 0), (k_extraordinary_days, k_days, 0)] []) t11)
    (hQ : ∀ (u0 u1 u4 u12 u13 u14 u15 u16 u17 u18 u19 u20 u21 u22 u23 u24 u25 u26 u27 u28 u29 u30 u31 u32 u33 u34 u35 u36 u37 u38 u39 u40 u41 u42 u43 u44 u45 u46 u47 u48 u49 u50 u51 u52 u53 u54 u55 u56 u57 u58 u59 u60 u61 u62 u63 u64 u65 u66 u67 u68 u69 u70 u71 u72 u73 u74 u75 u76 u77 u78 u79 u80 u81 u82 u83 u84 u85 u86 u87 u88 u89 u90 u91 u92 u93 u94 u95 u96 u97 u98 u99 u100 u101 u102 u103 u104 u105 u106 u107 u108 u109 u110 u111 u112 u113 u114 u115 u116 u117 u118 u119 u120 u121 : Value) (w' : World), S1 w0 w' b2 b4 b5 b7 b8 b9 b10 b11 bbL sb t7 t8 t9 (noticeT [k_regular_days, k_extraordinary_days, k_urgent_oral, k_day_count, k_article] [(k_annual_days, k_days, 0), (k_extraordinary_days, k_days, 0)] []) t11 → Qx .normal ⟨#[u0, u1, .pointer (some ⟨b2, 0, none⟩), .bool true, u4, .pointer (some ⟨b5, 0, none⟩), .func (.func 43) #[] #[.pointer (some ⟨b5, 0, none⟩)], .pointer (some ⟨b7, 0, none⟩), .pointer (some ⟨b8, 0, none⟩), .pointer (some ⟨b9, 0, none⟩), .pointer (some ⟨b10, 0, none⟩), .pointer (some ⟨b11, 0, none⟩), u12, u13, u14, u15, u16, u17, u18, u19, u20, u21, u22, u23, u24, u25, u26, u27, u28, u29, u30, u31, u32, u33, u34, u35, u36, u37, u38, u39, u40, u41, u42, u43, u44, u45, u46, u47, u48, u49, u50, u51, u52, u53, u54, u55, u56, u57, u58, u59, u60, u61, u62, u63, u64, u65, u66, u67, u68, u69, u70, u71, u72, u73, u74, u75, u76, u77, u78, u79, u80, u81, u82, u83, u84, u85, u86, u87, u88, u89, u90, u91, u92, u93, u94, u95, u96, u97, u98, u99, u100, u101, u102, u103, u104, u105, u106, u107, u108, u109, u110, u111, u112, u113, u114, u115, u116, u117, u118, u119, u120, u121], []⟩ w') :
    Code.wp Try.prog (headOf (dropSeq 3 (thenOf (headOf (dropSeq 11 (Try.f20.body.getD .skip)))))) Qx ⟨#[u0, u1, .pointer (some ⟨b2, 0, none⟩), .bool true, u4, .pointer (some ⟨b5, 0, none⟩), .func (.func 43) #[] #[.pointer (some ⟨b5, 0, none⟩)], .pointer (some ⟨b7, 0, none⟩), .pointer (some ⟨b8, 0, none⟩), .pointer (some ⟨b9, 0, none⟩), .pointer (some ⟨b10, 0, none⟩), .pointer (some ⟨b11, 0, none⟩), u12, u13, u14, u15, u16, u17, u18, u19, u20, u21, u22, u23, u24, u25, u26, u27, u28, u29, u30, u31, u32, u33, u34, u35, u36, u37, u38, u39, u40, u41, u42, u43, u44, u45, u46, u47, u48, u49, u50, u51, u52, u53, u54, u55, u56, u57, u58, u59, u60, u61, u62, u63, u64, u65, u66, u67, u68, u69, u70, u71, u72, u73, u74, u75, u76, u77, u78, u79, u80, u81, u82, u83, u84, u85, u86, u87, u88, u89, u90, u91, u92, u93, u94, u95, u96, u97, u98, u99, u100, u101, u102, u103, u104, u105, u106, u107, u108, u109, u110, u111, u112, u113, u114, u115, u116, u117, u118, u119, u120, u121], []⟩ w := by
  have hX := h.lt
  have hlow := h.ord
  have hbel := h.s0.below
  have hbs := hbel.size
  obtain ⟨cs0, hv, hf⟩ := h.v10
  obtain ⟨pa4, pn4, pd4, pa5, pn5, pd5, pa6, pn6, pd6, pa7, pn7, pd7, pa8, pn8, pd8, pa9, pn9, pd9, pa10, pn10, pd10, e0, i1, i2, i3, i4, i5, i6, i7⟩ := hf.open
  cases e0
  have HV : Hid (VarB w b10 _) := hv
  obtain ⟨l0, c0, f0⟩ := hv
  have HQ := hQ
  clear hQ
  have HQ' : Hid (∀ (u0 u1 u4 u12 u13 u14 u15 u16 u17 u18 u19 u20 u21 u22 u23 u24 u25 u26 u27 u28 u29 u30 u31 u32 u33 u34 u35 u36 u37 u38 u39 u40 u41 u42 u43 u44 u45 u46 u47 u48 u49 u50 u51 u52 u53 u54 u55 u56 u57 u58 u59 u60 u61 u62 u63 u64 u65 u66 u67 u68 u69 u70 u71 u72 u73 u74 u75 u76 u77 u78 u79 u80 u81 u82 u83 u84 u85 u86 u87 u88 u89 u90 u91 u92 u93 u94 u95 u96 u97 u98 u99 u100 u101 u102 u103 u104 u105 u106 u107 u108 u109 u110 u111 u112 u113 u114 u115 u116 u117 u118 u119 u120 u121 : Value) (w' : World), S1 w0 w' b2 b4 b5 b7 b8 b9 b10 b11 bbL sb t7 t8 t9 (noticeT [k_regular_days, k_extraordinary_days, k_urgent_oral, k_day_count, k_article] [(k_annual_days, k_days, 0), (k_extraordinary_days, k_days, 0)] []) t11 → Qx .normal ⟨#[u0, u1, .pointer (some ⟨b2, 0, none⟩), .bool true, u4, .pointer (some ⟨b5, 0, none⟩), .func (.func 43) #[] #[.pointer (some ⟨b5, 0, none⟩)], .pointer (some ⟨b7, 0, none⟩), .pointer (some ⟨b8, 0, none⟩), .pointer (some ⟨b9, 0, none⟩), .pointer (some ⟨b10, 0, none⟩), .pointer (some ⟨b11, 0, none⟩), u12, u13, u14, u15, u16, u17, u18, u19, u20, u21, u22, u23, u24, u25, u26, u27, u28, u29, u30, u31, u32, u33, u34, u35, u36, u37, u38, u39, u40, u41, u42, u43, u44, u45, u46, u47, u48, u49, u50, u51, u52, u53, u54, u55, u56, u57, u58, u59, u60, u61, u62, u63, u64, u65, u66, u67, u68, u69, u70, u71, u72, u73, u74, u75, u76, u77, u78, u79, u80, u81, u82, u83, u84, u85, u86, u87, u88, u89, u90, u91, u92, u93, u94, u95, u96, u97, u98, u99, u100, u101, u102, u103, u104, u105, u106, u107, u108, u109, u110, u111, u112, u113, u114, u115, u116, u117, u118, u119, u120, u121], []⟩ w') := HQ
  clear HQ
  have G := h
  clear h
  have HI := And.intro G (And.intro i1 (And.intro i2 (And.intro i3 (And.intro i4 (And.intro i5 (And.intro i6 i7))))))
  clear i1 i2 i3 i4 i5 i6 i7 hf G
  conv => arg 2; whnf
  go_wp2
  refine HQ'.out _ _ _ _ _ _ _ _ _ _ _ _ _ _ _ _ _ _ _ _ _ _ _ _ _ _ _ _ _ _ _ _ _ _ _ _ _ _ _ _ _ _ _ _ _ _ _ _ _ _ _ _ _ _ _ _ _ _ _ _ _ _ _ _ _ _ _ _ _ _ _ _ _ _ _ _ _ _ _ _ _ _ _ _ _ _ _ _ _ _ _ _ _ _ _ _ _ _ _ _ _ _ _ _ _ _ _ _ _ _ _ _ _  _ ?_
  obtain ⟨G, i1, i2, i3, i4, i5, i6, i7⟩ := HI
  have kp : ∀ v A, Keep [b10] w ((w.setCell ⟨b10, 4, none⟩ v).alloc A) := fun v A => ((Keep.refl _ _).setCell _ (by simp) _).alloc _
  have kX : ∀ v A, Keep [b11, b10, b9, b8, b7, b2] w ((w.setCell ⟨b10, 4, none⟩ v).alloc A) := fun v A => (kp v A).mono (by simp)
  exact G.put10 ((hbel.setCell (by show w0.heap.size ≤ b10; omega) _).alloc (by simp [World.setCell]; omega) _) (kp _ _) ⟨_, (HV.out.set (j := 4) _ (by simp)).alloc _, _, _, _, _, _, _, _, rfl, strsLit (l := [k_regular_days, k_extraordinary_days, k_urgent_oral, k_day_count, k_article]) (cs := #[.string k_regular_days, .string k_extraordinary_days, .string k_urgent_oral, .string k_day_count, .string k_article]) (by repeat (first | exact blk_top _ _ (by first | rfl | (simp [World.setCell]; done)) | refine blk_under _ (by first | (simp [World.setCell]; done) | (simp [World.setCell]; omega)) ?_)) (not_mem_of_lt hX (by omega)) rfl (by decide) rfl rfl, i2.keep (kX _ _), i3.keep (kX _ _), i4.keep (kX _ _), i5.keep (kX _ _), i6.keep (kX _ _), i7.keep (kX _ _) fun _ _ h => h.keep (kX _ _)⟩

set_option maxRecDepth 100000 in
set_option maxHeartbeats 1000000 in
theorem bR17 {w0 w : World} {b2 b4 b5 b7 b8 b9 b10 b11 : Nat} {sb : Value} {t7 t8 t9 t10 : FTree 5} {t11 : FTree 4} {u0 u1 u4 u12 u13 u14 u15 u16 u17 u18 u19 u20 u21 u22 u23 u24 u25 u26 u27 u28 u29 u30 u31 u32 u33 u34 u35 u36 u37 u38 u39 u40 u41 u42 u43 u44 u45 u46 u47 u48 u49 u50 u51 u52 u53 u54 u55 u56 u57 u58 u59 u60 u61 u62 u63 u64 u65 u66 u67 u68 u69 u70 u71 u72 u73 u74 u75 u76 u77 u78 u79 u80 u81 u82 u83 u84 u85 u86 u87 u88 u89 u90 u91 u92 u93 u94 u95 u96 u97 u98 u99 u100 u101 u102 u103 u104 u105 u106 u107 u108 u109 u110 u111 u112 u113 u114 u115 u116 u117 u118 u119 u120 u121 : Value} {Qx : Exit → Act → World → Prop} (h : S1 w0 w b2 b4 b5 b7 b8 b9 b10 b11 bbL sb t7 t8 t9 (noticeT [k_regular_days, k_extraordinary_days, k_urgent_oral, k_day_count, k_article] [(k_annual_days, k_days, 0), (k_extraordinary_days, k_days, 0)] []) t11)
    (hQ : ∀ (u0 u1 u4 u12 u13 u14 u15 u16 u17 u18 u19 u20 u21 u22 u23 u24 u25 u26 u27 u28 u29 u30 u31 u32 u33 u34 u35 u36 u37 u38 u39 u40 u41 u42 u43 u44 u45 u46 u47 u48 u49 u50 u51 u52 u53 u54 u55 u56 u57 u58 u59 u60 u61 u62 u63 u64 u65 u66 u67 u68 u69 u70 u71 u72 u73 u74 u75 u76 u77 u78 u79 u80 u81 u82 u83 u84 u85 u86 u87 u88 u89 u90 u91 u92 u93 u94 u95 u96 u97 u98 u99 u100 u101 u102 u103 u104 u105 u106 u107 u108 u109 u110 u111 u112 u113 u114 u115 u116 u117 u118 u119 u120 u121 : Value) (w' : World), S1 w0 w' b2 b4 b5 b7 b8 b9 b10 b11 bbL sb t7 t8 t9 (noticeT [k_regular_days, k_extraordinary_days, k_urgent_oral, k_day_count, k_article] [(k_regular_days, k_days, 0), (k_extraordinary_days, k_days, 0)] []) t11 → Qx .normal ⟨#[u0, u1, .pointer (some ⟨b2, 0, none⟩), .bool true, u4, .pointer (some ⟨b5, 0, none⟩), .func (.func 43) #[] #[.pointer (some ⟨b5, 0, none⟩)], .pointer (some ⟨b7, 0, none⟩), .pointer (some ⟨b8, 0, none⟩), .pointer (some ⟨b9, 0, none⟩), .pointer (some ⟨b10, 0, none⟩), .pointer (some ⟨b11, 0, none⟩), u12, u13, u14, u15, u16, u17, u18, u19, u20, u21, u22, u23, u24, u25, u26, u27, u28, u29, u30, u31, u32, u33, u34, u35, u36, u37, u38, u39, u40, u41, u42, u43, u44, u45, u46, u47, u48, u49, u50, u51, u52, u53, u54, u55, u56, u57, u58, u59, u60, u61, u62, u63, u64, u65, u66, u67, u68, u69, u70, u71, u72, u73, u74, u75, u76, u77, u78, u79, u80, u81, u82, u83, u84, u85, u86, u87, u88, u89, u90, u91, u92, u93, u94, u95, u96, u97, u98, u99, u100, u101, u102, u103, u104, u105, u106, u107, u108, u109, u110, u111, u112, u113, u114, u115, u116, u117, u118, u119, u120, u121], []⟩ w') :
    Code.wp Try.prog (headOf (dropSeq 4 (thenOf (headOf (dropSeq 11 (Try.f20.body.getD .skip)))))) Qx ⟨#[u0, u1, .pointer (some ⟨b2, 0, none⟩), .bool true, u4, .pointer (some ⟨b5, 0, none⟩), .func (.func 43) #[] #[.pointer (some ⟨b5, 0, none⟩)], .pointer (some ⟨b7, 0, none⟩), .pointer (some ⟨b8, 0, none⟩), .pointer (some ⟨b9, 0, none⟩), .pointer (some ⟨b10, 0, none⟩), .pointer (some ⟨b11, 0, none⟩), u12, u13, u14, u15, u16, u17, u18, u19, u20, u21, u22, u23, u24, u25, u26, u27, u28, u29, u30, u31, u32, u33, u34, u35, u36, u37, u38, u39, u40, u41, u42, u43, u44, u45, u46, u47, u48, u49, u50, u51, u52, u53, u54, u55, u56, u57, u58, u59, u60, u61, u62, u63, u64, u65, u66, u67, u68, u69, u70, u71, u72, u73, u74, u75, u76, u77, u78, u79, u80, u81, u82, u83, u84, u85, u86, u87, u88, u89, u90, u91, u92, u93, u94, u95, u96, u97, u98, u99, u100, u101, u102, u103, u104, u105, u106, u107, u108, u109, u110, u111, u112, u113, u114, u115, u116, u117, u118, u119, u120, u121], []⟩ w := by
  have hX := h.lt
  have hlow := h.ord
  have hbel := h.s0.below
  have hbs := hbel.size
  obtain ⟨cs0, hv, hf⟩ := h.v10
  obtain ⟨pa4, pn4, pd4, pa5, pn5, pd5, pa6, pn6, pd6, pa7, pn7, pd7, pa8, pn8, pd8, pa9, pn9, pd9, pa10, pn10, pd10, e0, i1, i2, i3, i4, i5, i6, i7⟩ := hf.open
  cases e0
  have HV : Hid (VarB w b10 _) := hv
  obtain ⟨l0, c0, f0⟩ := hv
  have HQ := hQ
  clear hQ
  have HQ' : Hid (∀ (u0 u1 u4 u12 u13 u14 u15 u16 u17 u18 u19 u20 u21 u22 u23 u24 u25 u26 u27 u28 u29 u30 u31 u32 u33 u34 u35 u36 u37 u38 u39 u40 u41 u42 u43 u44 u45 u46 u47 u48 u49 u50 u51 u52 u53 u54 u55 u56 u57 u58 u59 u60 u61 u62 u63 u64 u65 u66 u67 u68 u69 u70 u71 u72 u73 u74 u75 u76 u77 u78 u79 u80 u81 u82 u83 u84 u85 u86 u87 u88 u89 u90 u91 u92 u93 u94 u95 u96 u97 u98 u99 u100 u101 u102 u103 u104 u105 u106 u107 u108 u109 u110 u111 u112 u113 u114 u115 u116 u117 u118 u119 u120 u121 : Value) (w' : World), S1 w0 w' b2 b4 b5 b7 b8 b9 b10 b11 bbL sb t7 t8 t9 (noticeT [k_regular_days, k_extraordinary_days, k_urgent_oral, k_day_count, k_article] [(k_regular_days, k_days, 0), (k_extraordinary_days, k_days, 0)] []) t11 → Qx .normal ⟨#[u0, u1, .pointer (some ⟨b2, 0, none⟩), .bool true, u4, .pointer (some ⟨b5, 0, none⟩), .func (.func 43) #[] #[.pointer (some ⟨b5, 0, none⟩)], .pointer (some ⟨b7, 0, none⟩), .pointer (some ⟨b8, 0, none⟩), .pointer (some ⟨b9, 0, none⟩), .pointer (some ⟨b10, 0, none⟩), .pointer (some ⟨b11, 0, none⟩), u12, u13, u14, u15, u16, u17, u18, u19, u20, u21, u22, u23, u24, u25, u26, u27, u28, u29, u30, u31, u32, u33, u34, u35, u36, u37, u38, u39, u40, u41, u42, u43, u44, u45, u46, u47, u48, u49, u50, u51, u52, u53, u54, u55, u56, u57, u58, u59, u60, u61, u62, u63, u64, u65, u66, u67, u68, u69, u70, u71, u72, u73, u74, u75, u76, u77, u78, u79, u80, u81, u82, u83, u84, u85, u86, u87, u88, u89, u90, u91, u92, u93, u94, u95, u96, u97, u98, u99, u100, u101, u102, u103, u104, u105, u106, u107, u108, u109, u110, u111, u112, u113, u114, u115, u116, u117, u118, u119, u120, u121], []⟩ w') := HQ
  clear HQ
  have G := h
  clear h
  have HI := And.intro G (And.intro i1 (And.intro i2 (And.intro i3 (And.intro i4 (And.intro i5 (And.intro i6 i7))))))
  clear i1 i2 i3 i4 i5 i6 i7 hf G
  conv => arg 2; whnf
  go_wp2
  refine HQ'.out _ _ _ _ _ _ _ _ _ _ _ _ _ _ _ _ _ _ _ _ _ _ _ _ _ _ _ _ _ _ _ _ _ _ _ _ _ _ _ _ _ _ _ _ _ _ _ _ _ _ _ _ _ _ _ _ _ _ _ _ _ _ _ _ _ _ _ _ _ _ _ _ _ _ _ _ _ _ _ _ _ _ _ _ _ _ _ _ _ _ _ _ _ _ _ _ _ _ _ _ _ _ _ _ _ _ _ _ _ _ _ _ _  _ ?_
  obtain ⟨G, i1, i2, i3, i4, i5, i6, i7⟩ := HI
  have kp : ∀ v A, Keep [b10] w ((w.setCell ⟨b10, 8, none⟩ v).alloc A) := fun v A => ((Keep.refl _ _).setCell _ (by simp) _).alloc _
  have kX : ∀ v A, Keep [b11, b10, b9, b8, b7, b2] w ((w.setCell ⟨b10, 8, none⟩ v).alloc A) := fun v A => (kp v A).mono (by simp)
  exact G.put10 ((hbel.setCell (by show w0.heap.size ≤ b10; omega) _).alloc (by simp [World.setCell]; omega) _) (kp _ _) ⟨_, (HV.out.set (j := 8) _ (by simp)).alloc _, _, _, _, _, _, _, _, rfl, i1.keep (kX _ _), i2.keep (kX _ _), i3.keep (kX _ _), i4.keep (kX _ _), countsLit (l := [(k_regular_days, k_days, 0), (k_extraordinary_days, k_days, 0)]) (cs := #[.string k_regular_days, .string k_days, .int .i64 0, .string k_extraordinary_days, .string k_days, .int .i64 0]) (by repeat (first | exact blk_top _ _ (by first | rfl | (simp [World.setCell]; done)) | refine blk_under _ (by first | (simp [World.setCell]; done) | (simp [World.setCell]; omega)) ?_)) (not_mem_of_lt hX (by omega)) rfl (by decide) rfl rfl, i6.keep (kX _ _), i7.keep (kX _ _) fun _ _ h => h.keep (kX _ _)⟩

theorem run_groups2 (w : World) (a : Option Addr) (n c : Nat) (a' : Option Addr) (n' c' : Nat) : (Instr.buildSlice 25 2 #[(0, .slice a n c), (1, .slice a' n' c')]).run Try.prog w = .ok (.slice (some ⟨w.heap.size, 0, none⟩) 2 2) (w.alloc (.cells #[.slice a n c, .slice a' n' c'] 24)) := by kernel_rfl
theorem run_build_ballot (nm lo : ByteArray) (a : Option Addr) (n c : Nat) (a' : Option Addr) (n' c' : Nat) (w : World) : (Instr.build 30 #[(0, .string nm), (3, .string lo), (6, .slice a n c), (7, .slice a' n' c')]).run Try.prog w =
    .ok (.agg #[.string nm, .bool false, .string k_empty, .string lo, .slice none 0 0, .slice none 0 0, .slice a n c, .slice a' n' c', .slice none 0 0, .slice none 0 0, .slice none 0 0]) w := by kernel_rfl

set_option maxRecDepth 100000 in
set_option maxHeartbeats 1000000 in
theorem bR15 {w0 w : World} {b2 b4 b5 b7 b8 b9 b10 b11 : Nat} {sb : Value} {t7 t8 t9 t10 : FTree 5} {t11 : FTree 4} {u0 u1 u4 u12 u13 u14 u15 u16 u17 u18 u19 u20 u21 u22 u23 u24 u25 u26 u27 u28 u29 u30 u31 u32 u33 u34 u35 u36 u37 u38 u39 u40 u41 u42 u43 u44 u45 u46 u47 u48 u49 u50 u51 u52 u53 u54 u55 u56 u57 u58 u59 u60 u61 u62 u63 u64 u65 u66 u67 u68 u69 u70 u71 u72 u73 u74 u75 u76 u77 u78 u79 u80 u81 u82 u83 u84 u85 u86 u87 u88 u89 u90 u91 u92 u93 u94 u95 u96 u97 u98 u99 u100 u101 u102 u103 u104 u105 u106 u107 u108 u109 u110 u111 u112 u113 u114 u115 u116 u117 u118 u119 u120 u121 : Value} {Qx : Exit → Act → World → Prop} (h : S1 w0 w b2 b4 b5 b7 b8 b9 b10 b11 bbL sb t7 t8 t9 t10 t11)
    (hQ : ∀ (u0 u1 u4 u12 u13 u14 u15 u16 u17 u18 u19 u20 u21 u22 u23 u24 u25 u26 u27 u28 u29 u30 u31 u32 u33 u34 u35 u36 u37 u38 u39 u40 u41 u42 u43 u44 u45 u46 u47 u48 u49 u50 u51 u52 u53 u54 u55 u56 u57 u58 u59 u60 u61 u62 u63 u64 u65 u66 u67 u68 u69 u70 u71 u72 u73 u74 u75 u76 u77 u78 u79 u80 u81 u82 u83 u84 u85 u86 u87 u88 u89 u90 u91 u92 u93 u94 u95 u96 u97 u98 u99 u100 u101 u102 u103 u104 u105 u106 u107 u108 u109 u110 u111 u112 u113 u114 u115 u116 u117 u118 u119 u120 u121 : Value) (w' : World), S1 w0 w' b2 b4 b5 b7 b8 b9 b10 b11 bbL sb t7 t8 bdBallotT t10 t11 → Qx .normal ⟨#[u0, u1, .pointer (some ⟨b2, 0, none⟩), .bool true, u4, .pointer (some ⟨b5, 0, none⟩), .func (.func 43) #[] #[.pointer (some ⟨b5, 0, none⟩)], .pointer (some ⟨b7, 0, none⟩), .pointer (some ⟨b8, 0, none⟩), .pointer (some ⟨b9, 0, none⟩), .pointer (some ⟨b10, 0, none⟩), .pointer (some ⟨b11, 0, none⟩), u12, u13, u14, u15, u16, u17, u18, u19, u20, u21, u22, u23, u24, u25, u26, u27, u28, u29, u30, u31, u32, u33, u34, u35, u36, u37, u38, u39, u40, u41, u42, u43, u44, u45, u46, u47, u48, u49, u50, u51, u52, u53, u54, u55, u56, u57, u58, u59, u60, u61, u62, u63, u64, u65, u66, u67, u68, u69, u70, u71, u72, u73, u74, u75, u76, u77, u78, u79, u80, u81, u82, u83, u84, u85, u86, u87, u88, u89, u90, u91, u92, u93, u94, u95, u96, u97, u98, u99, u100, u101, u102, u103, u104, u105, u106, u107, u108, u109, u110, u111, u112, u113, u114, u115, u116, u117, u118, u119, u120, u121], []⟩ w') :
    Code.wp Try.prog (headOf (dropSeq 2 (thenOf (headOf (dropSeq 11 (Try.f20.body.getD .skip)))))) Qx ⟨#[u0, u1, .pointer (some ⟨b2, 0, none⟩), .bool true, u4, .pointer (some ⟨b5, 0, none⟩), .func (.func 43) #[] #[.pointer (some ⟨b5, 0, none⟩)], .pointer (some ⟨b7, 0, none⟩), .pointer (some ⟨b8, 0, none⟩), .pointer (some ⟨b9, 0, none⟩), .pointer (some ⟨b10, 0, none⟩), .pointer (some ⟨b11, 0, none⟩), u12, u13, u14, u15, u16, u17, u18, u19, u20, u21, u22, u23, u24, u25, u26, u27, u28, u29, u30, u31, u32, u33, u34, u35, u36, u37, u38, u39, u40, u41, u42, u43, u44, u45, u46, u47, u48, u49, u50, u51, u52, u53, u54, u55, u56, u57, u58, u59, u60, u61, u62, u63, u64, u65, u66, u67, u68, u69, u70, u71, u72, u73, u74, u75, u76, u77, u78, u79, u80, u81, u82, u83, u84, u85, u86, u87, u88, u89, u90, u91, u92, u93, u94, u95, u96, u97, u98, u99, u100, u101, u102, u103, u104, u105, u106, u107, u108, u109, u110, u111, u112, u113, u114, u115, u116, u117, u118, u119, u120, u121], []⟩ w := by
  have hX := h.lt
  have hlow := h.ord
  have hbel := h.s0.below
  have hbs := hbel.size
  obtain ⟨cs0, hv, hf⟩ := h.v9
  obtain ⟨pa4, pn4, pd4, pa5, pn5, pd5, pa6, pn6, pd6, pa7, pn7, pd7, pa8, pn8, pd8, pa9, pn9, pd9, pa10, pn10, pd10, e0, i1, i2, i3, i4, i5, i6, i7⟩ := hf.open
  cases e0
  have HV : Hid (VarB w b9 _) := hv
  obtain ⟨l0, c0, f0⟩ := hv
  have HQ := hQ
  clear hQ
  have HQ' : Hid (∀ (u0 u1 u4 u12 u13 u14 u15 u16 u17 u18 u19 u20 u21 u22 u23 u24 u25 u26 u27 u28 u29 u30 u31 u32 u33 u34 u35 u36 u37 u38 u39 u40 u41 u42 u43 u44 u45 u46 u47 u48 u49 u50 u51 u52 u53 u54 u55 u56 u57 u58 u59 u60 u61 u62 u63 u64 u65 u66 u67 u68 u69 u70 u71 u72 u73 u74 u75 u76 u77 u78 u79 u80 u81 u82 u83 u84 u85 u86 u87 u88 u89 u90 u91 u92 u93 u94 u95 u96 u97 u98 u99 u100 u101 u102 u103 u104 u105 u106 u107 u108 u109 u110 u111 u112 u113 u114 u115 u116 u117 u118 u119 u120 u121 : Value) (w' : World), S1 w0 w' b2 b4 b5 b7 b8 b9 b10 b11 bbL sb t7 t8 bdBallotT t10 t11 → Qx .normal ⟨#[u0, u1, .pointer (some ⟨b2, 0, none⟩), .bool true, u4, .pointer (some ⟨b5, 0, none⟩), .func (.func 43) #[] #[.pointer (some ⟨b5, 0, none⟩)], .pointer (some ⟨b7, 0, none⟩), .pointer (some ⟨b8, 0, none⟩), .pointer (some ⟨b9, 0, none⟩), .pointer (some ⟨b10, 0, none⟩), .pointer (some ⟨b11, 0, none⟩), u12, u13, u14, u15, u16, u17, u18, u19, u20, u21, u22, u23, u24, u25, u26, u27, u28, u29, u30, u31, u32, u33, u34, u35, u36, u37, u38, u39, u40, u41, u42, u43, u44, u45, u46, u47, u48, u49, u50, u51, u52, u53, u54, u55, u56, u57, u58, u59, u60, u61, u62, u63, u64, u65, u66, u67, u68, u69, u70, u71, u72, u73, u74, u75, u76, u77, u78, u79, u80, u81, u82, u83, u84, u85, u86, u87, u88, u89, u90, u91, u92, u93, u94, u95, u96, u97, u98, u99, u100, u101, u102, u103, u104, u105, u106, u107, u108, u109, u110, u111, u112, u113, u114, u115, u116, u117, u118, u119, u120, u121], []⟩ w') := HQ
  clear HQ
  have G := h
  clear h
  have HI := And.intro G (And.intro i1 (And.intro i2 (And.intro i3 (And.intro i4 (And.intro i5 (And.intro i6 i7))))))
  clear i1 i2 i3 i4 i5 i6 i7 hf G
  conv => arg 2; whnf
  dsimp only
  refine wp_region_lit ?_
  refine wpList_plain rfl fun K1 hK1 => ?_
  refine op_buildSlice (vs := #[(0, .string k_late), (1, .string k_article)]) rfl (by simp only [List.map_toArray, List.map_cons, List.map_nil, eval_const]) (run_strs2 _ _ _) ?_
  refine hK1 _ _ ?_
  clear hK1 K1
  simp only [Act.put, List.setIfInBounds_toArray, List.set_cons_succ, List.set_cons_zero]
  refine wpList_plain rfl fun K1 hK1 => ?_
  refine op_buildSlice (vs := #[(0, .string k_uncast), (1, .string k_uncast_article)]) rfl (by simp only [List.map_toArray, List.map_cons, List.map_nil, eval_const]) (run_strs2 _ _ _) ?_
  refine hK1 _ _ ?_
  clear hK1 K1
  simp only [Act.put, List.setIfInBounds_toArray, List.set_cons_succ, List.set_cons_zero]
  refine wpList_plain rfl fun K1 hK1 => ?_
  refine op_buildSlice (vs := #[(0, .slice (some ⟨w.heap.size, 0, none⟩) 2 2), (1, .slice (some ⟨(w.alloc (.cells #[.string k_late, .string k_article] 9)).heap.size, 0, none⟩) 2 2)]) rfl (by kernel_rfl) (run_groups2 _ _ _ _ _ _ _) ?_
  refine hK1 _ _ ?_
  clear hK1 K1
  simp only [Act.put, List.setIfInBounds_toArray, List.set_cons_succ, List.set_cons_zero]
  refine wpList_plain rfl fun K1 hK1 => ?_
  refine op_buildSlice (vs := #[(0, .string k_late), (1, .string k_uncast)]) rfl (by simp only [List.map_toArray, List.map_cons, List.map_nil, eval_const]) (run_strs2 _ _ _) ?_
  refine hK1 _ _ ?_
  clear hK1 K1
  simp only [Act.put, List.setIfInBounds_toArray, List.set_cons_succ, List.set_cons_zero]
  refine wpList_plain rfl fun K1 hK1 => ?_
  refine op_build (vs := #[(0, .string k_ballot), (3, .string k_refuse), (6, .slice (some ⟨((w.alloc (.cells #[.string k_late, .string k_article] 9)).alloc (.cells #[.string k_uncast, .string k_uncast_article] 9)).heap.size, 0, none⟩) 2 2), (7, .slice (some ⟨(((w.alloc (.cells #[.string k_late, .string k_article] 9)).alloc (.cells #[.string k_uncast, .string k_uncast_article] 9)).alloc (.cells #[.slice (some ⟨w.heap.size, 0, none⟩) 2 2, .slice (some ⟨(w.alloc (.cells #[.string k_late, .string k_article] 9)).heap.size, 0, none⟩) 2 2] 24)).heap.size, 0, none⟩) 2 2)]) rfl (by kernel_rfl) (run_build_ballot _ _ _ _ _ _ _ _ _) ?_
  refine hK1 _ _ ?_
  clear hK1 K1
  simp only [Act.put, List.setIfInBounds_toArray, List.set_cons_succ, List.set_cons_zero]
  simp only [World.size_alloc]
  have hbl : FormIs [b11, b10, b9, b8, b7, b2] 5 ((((w.alloc (.cells #[.string k_late, .string k_article] 9)).alloc (.cells #[.string k_uncast, .string k_uncast_article] 9)).alloc (.cells #[.slice (some ⟨w.heap.size, 0, none⟩) 2 2, .slice (some ⟨w.heap.size + 1, 0, none⟩) 2 2] 24)).alloc (.cells #[.string k_late, .string k_uncast] 9)) (.agg #[.string k_ballot, .bool false, .string k_empty, .string k_refuse, .slice none 0 0, .slice none 0 0, .slice (some ⟨w.heap.size + 1 + 1, 0, none⟩) 2 2, .slice (some ⟨w.heap.size + 1 + 1 + 1, 0, none⟩) 2 2, .slice none 0 0, .slice none 0 0, .slice none 0 0]) bdBallotT := by
    refine ⟨_, _, _, _, _, _, _, rfl, Own.nil _ _ _ _, Own.nil _ _ _ _, ?_, strsLit (l := [k_late, k_uncast]) (cs := #[.string k_late, .string k_uncast]) (by repeat (first | exact blk_top _ _ (by first | rfl | (simp [World.setCell]; done)) | refine blk_under _ (by first | (simp [World.setCell]; done) | (simp [World.setCell]; omega)) ?_)) (not_mem_of_lt hX (by omega)) rfl (by decide) rfl rfl, Own.nil _ _ _ _, Own.nil _ _ _ _, noForms _ _⟩
    refine groupsLit (gs := [[k_late, k_article], [k_uncast, k_uncast_article]]) (cs := #[.slice (some ⟨w.heap.size, 0, none⟩) 2 2, .slice (some ⟨w.heap.size + 1, 0, none⟩) 2 2]) (by repeat (first | exact blk_top _ _ (by first | rfl | (simp [World.setCell]; done)) | refine blk_under _ (by first | (simp [World.setCell]; done) | (simp [World.setCell]; omega)) ?_)) (not_mem_of_lt hX (by omega)) rfl (by decide) rfl ?_
    intro i v l hv hl
    match i, hv, hl with
    | 0, hv, hl => simp at hv hl; subst hv hl; exact strsLit (l := [k_late, k_article]) (cs := #[.string k_late, .string k_article]) (by repeat (first | exact blk_top _ _ (by first | rfl | (simp [World.setCell]; done)) | refine blk_under _ (by first | (simp [World.setCell]; done) | (simp [World.setCell]; omega)) ?_)) (not_mem_of_lt hX (by omega)) rfl (by decide) rfl rfl
    | 1, hv, hl => simp at hv hl; subst hv hl; exact strsLit (l := [k_uncast, k_uncast_article]) (cs := #[.string k_uncast, .string k_uncast_article]) (by repeat (first | exact blk_top _ _ (by first | rfl | (simp [World.setCell]; done)) | refine blk_under _ (by first | (simp [World.setCell]; done) | (simp [World.setCell]; omega)) ?_)) (not_mem_of_lt hX (by omega)) rfl (by decide) rfl rfl
  have hbW : Below w.heap.size w ((((w.alloc (.cells #[.string k_late, .string k_article] 9)).alloc (.cells #[.string k_uncast, .string k_uncast_article] 9)).alloc (.cells #[.slice (some ⟨w.heap.size, 0, none⟩) 2 2, .slice (some ⟨w.heap.size + 1, 0, none⟩) 2 2] 24)).alloc (.cells #[.string k_late, .string k_uncast] 9)) := by
    iterate 4 (refine Below.alloc ?_ (by first | omega | (simp; done) | (simp; omega)) _)
    exact Below.refl _ _
  have G2 := HI.1.grow hbW
  have HV2 := HV.out.below hbW
  clear HI HV c0 f0
  generalize ((((w.alloc (.cells #[.string k_late, .string k_article] 9)).alloc (.cells #[.string k_uncast, .string k_uncast_article] 9)).alloc (.cells #[.slice (some ⟨w.heap.size, 0, none⟩) 2 2, .slice (some ⟨w.heap.size + 1, 0, none⟩) 2 2] 24)).alloc (.cells #[.string k_late, .string k_uncast] 9)) = W at *
  have HV3 : Hid (VarB W b9 _) := HV2
  obtain ⟨l9, c9, f9⟩ := HV2
  have HB : Hid (FormIs [b11, b10, b9, b8, b7, b2] 5 W _ bdBallotT) := hbl
  clear hbl hbW
  have HG : Hid (S1 w0 W b2 b4 b5 b7 b8 b9 b10 b11 bbL sb t7 t8 t9 t10 t11) := G2
  clear G2
  go_wp2
  refine HQ'.out _ _ _ _ _ _ _ _ _ _ _ _ _ _ _ _ _ _ _ _ _ _ _ _ _ _ _ _ _ _ _ _ _ _ _ _ _ _ _ _ _ _ _ _ _ _ _ _ _ _ _ _ _ _ _ _ _ _ _ _ _ _ _ _ _ _ _ _ _ _ _ _ _ _ _ _ _ _ _ _ _ _ _ _ _ _ _ _ _ _ _ _ _ _ _ _ _ _ _ _ _ _ _ _ _ _ _ _ _ _ _ _ _  _ ?_
  have G := HG.out
  refine G.put9 ?_ ?_ ⟨_, HV3.out.set11, HB.out.keep ?_⟩
  · iterate 11 (refine Below.setCell ?_ (by show w0.heap.size ≤ b9; omega) _)
    exact G.s0.below
  · iterate 11 (refine Keep.setCell ?_ _ (by simp) _)
    exact Keep.refl _ _
  · iterate 11 (refine Keep.setCell ?_ _ (by simp) _)
    exact Keep.refl _ _
end Go.Proofs.Qxb6601023a
