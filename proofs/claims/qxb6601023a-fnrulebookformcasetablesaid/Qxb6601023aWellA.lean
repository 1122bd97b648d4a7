/-
  OWN WORK. zzWellFormed_b1 (12): the bases, the groups.
-/
import Derived.Test.Qxb6601023aWell20
namespace Go.Proofs.Qxb6601023a
open Go.RowKit Go.Flow
set_option linter.unusedVariables false
set_option linter.unusedSimpArgs false

set_option maxRecDepth 100000 in
set_option maxHeartbeats 2000000 in
theorem w19 {X : List Nat} {w ws : World} {n : Nat} {t : FTree (n + 1)} {sa : Value} {allowed : List ByteArray} {a4 a5 a6 a7 a8 a9 a10 : Option Addr} {n4 d4 n5 d5 n6 d6 n7 d7 n8 d8 n9 d9 n10 d10 : Nat} {u0 u1 u4 u5 u6 u7 u8 u9 u11 u12 u13 u14 u15 u16 u17 u18 u19 u20 u21 u22 u23 u25 u26 u27 u28 u29 u30 u31 u32 u33 u34 u35 u36 u37 u38 u39 u40 u41 u42 u43 u44 u45 u46 u47 u48 u49 u50 u51 u52 u53 u54 u55 u56 u57 u58 u59 u60 u61 u62 u63 u64 u65 u66 u67 u68 u69 u70 u71 u72 u73 u74 u75 u76 u77 u78 u79 u80 u81 u82 u83 u84 u85 u86 u87 u88 u89 u90 u91 u92 u93 u94 u95 u96 u97 u98 u99 u100 u101 u102 u103 u104 u105 u106 u107 u108 u109 u110 u111 u112 u113 u114 u115 u116 u117 u118 u119 u120 u121 u122 u123 u124 u125 u126 u127 u128 u129 u130 u131 u132 u133 u134 u135 u136 u137 u138 u139 u140 u141 u142 u143 u144 u145 u146 u147 u148 u149 u150 u151 u152 u153 u154 u155 u156 u157 u158 u159 u160 u161 u162 u163 u164 u165 u166 u167 u168 u169 u170 u171 u172 u173 u174 u175 u176 u177 u178 u179 u180 u181 u182 u183 u184 u185 u186 u187 u188 u189 u190 u191 u192 u193 u194 u195 u196 u197 u198 u199 u200 u201 u202 u203 u204 u205 u206 : Value} (ih : IH12 n) (h : WS X w ws n t sa allowed a4 n4 d4 a5 n5 d5 a6 n6 d6 a7 n7 d7 a8 n8 d8 a9 n9 d9 a10 n10 d10) (hg : ∀ t' ∈ FNode.tables t, Good n t' false allowed) (hba : ∀ b ∈ FNode.bases t, has allowed b = true) :
    Code.wp Try.prog (dropSeq 19 (Try.f12.body.getD .skip)) (bodyPost Try.prog Try.f12 (PostW w)) ⟨#[u0, u1, sa, .pointer (some ⟨w.heap.size, 0, none⟩), u4, u5, u6, u7, u8, u9, .slice a10 n10 d10, u11, u12, u13, u14, u15, u16, u17, u18, u19, u20, u21, u22, u23, .int .i64 n9, u25, u26, u27, u28, u29, u30, u31, u32, u33, u34, u35, u36, u37, u38, u39, u40, u41, u42, u43, u44, u45, u46, u47, u48, u49, u50, u51, u52, u53, u54, u55, u56, u57, u58, u59, u60, u61, u62, u63, u64, u65, u66, u67, u68, u69, u70, u71, u72, u73, u74, u75, u76, u77, u78, u79, u80, u81, u82, u83, u84, u85, u86, u87, u88, u89, u90, u91, u92, u93, u94, u95, u96, u97, u98, u99, u100, u101, u102, u103, u104, u105, u106, u107, u108, u109, u110, u111, u112, u113, u114, u115, u116, u117, u118, u119, u120, u121, u122, u123, u124, u125, u126, u127, u128, u129, u130, u131, u132, u133, u134, u135, u136, u137, u138, u139, u140, u141, u142, u143, u144, u145, u146, u147, u148, u149, u150, u151, u152, u153, u154, u155, u156, u157, u158, u159, u160, u161, u162, u163, u164, u165, u166, u167, u168, u169, u170, u171, u172, u173, u174, u175, u176, u177, u178, u179, u180, u181, u182, u183, u184, u185, u186, u187, u188, u189, u190, u191, u192, u193, u194, u195, u196, u197, u198, u199, u200, u201, u202, u203, u204, u205, u206], []⟩ ws := by
  obtain ⟨hn9, hmax⟩ := bases_len h.bas
  have hmax' := hmax
  unfold maxLen at hmax
  have HW : Hid (WS X w ws n t sa allowed a4 n4 d4 a5 n5 d5 a6 n6 d6 a7 n7 d7 a8 n8 d8 a9 n9 d9 a10 n10 d10) := h
  have HG : Hid (∀ t' ∈ FNode.tables t, Good n t' false allowed) := hg
  have HBA : Hid (∀ b ∈ FNode.bases t, has allowed b = true) := hba
  have HIH : Hid (IH12 n) := ih
  clear h hg ih hba
  subst hn9
  obtain ⟨C, hC⟩ : ∃ C, C = dropSeq 20 (Try.f12.body.getD .skip) := ⟨_, rfl⟩
  have e : dropSeq 19 (Try.f12.body.getD .skip) = replTail 1 (dropSeq 19 (Try.f12.body.getD .skip)) C := by subst hC; rfl
  rw [e]
  have HC : Hid (C = dropSeq 20 (Try.f12.body.getD .skip)) := hC
  clear hC e
  conv => arg 2; whnf
  simp only [replTail]
  go_wp2
  go_loopw [25] (fun i wq => ∃ k : Nat, k ≤ (FNode.bases t).length ∧ i = .int .i64 k ∧ WS X w wq n t sa allowed a4 n4 d4 a5 n5 d5 a6 n6 d6 a7 n7 d7 a8 n8 d8 a9 (FNode.bases t).length d9 a10 n10 d10) (fun i _ => (FNode.bases t).length - (intOf i).toNat)
  case atStart => exact ⟨0, Nat.zero_le _, rfl, HW.out⟩
  case round =>
    obtain ⟨k, hk, rfl, hws⟩ := hrel
    have HWS : Hid (WS X w wr n t sa allowed a4 n4 d4 a5 n5 d5 a6 n6 d6 a7 n7 d7 a8 n8 d8 a9 (FNode.bases t).length d9 a10 n10 d10) := hws
    by_cases hlt : k < (FNode.bases t).length
    · obtain ⟨g, e, hgl, hcell⟩ := bases_at hws.bas hlt
      subst e
      obtain ⟨bl0, bc0, bf0⟩ := hws.box
      clear hws
      go_wp2_with fail
      refine (get27 _ _ _ _ _ _ _ _ _ _ g _ _ k (.string (FNode.bases t)[k]) wr hlt hmax' hgl hcell).mono ?_
      rintro e w' ⟨rfl, hb⟩
      have HB : Hid (Below wr.heap.size wr w') := hb
      clear hb bc0 bf0 bl0 hcell hgl
      go_wp2_with fail
      refine (has39 (FNode.bases t)[k] (HWS.out.grow HB.out).al).mono ?_
      rintro e w2 ⟨rfl, rfl⟩
      have hh : has allowed (FNode.bases t)[k] = true := HBA.out _ (List.getElem_mem hlt)
      go_wp2
      go_roundw
      case rel => exact ⟨k + 1, by omega, by go_num, HWS.out.grow HB.out⟩
      case measure => simp [intOf]; omega
    · clear hws
      go_wp2
      rw [HC.out]
      exact w20 HIH.out HWS.out HG.out

set_option maxRecDepth 100000 in
set_option maxHeartbeats 2000000 in
theorem w17 {X : List Nat} {w ws : World} {n : Nat} {t : FTree (n + 1)} {sa : Value} {allowed : List ByteArray} {a4 a5 a6 a7 a8 a9 a10 : Option Addr} {n4 d4 n5 d5 n6 d6 n7 d7 n8 d8 n9 d9 n10 d10 : Nat} {u0 u1 u4 u5 u6 u7 u8 u9 u11 u12 u13 u14 u15 u16 u17 u19 u20 u21 u22 u23 u24 u25 u26 u27 u28 u29 u30 u31 u32 u33 u34 u35 u36 u37 u38 u39 u40 u41 u42 u43 u44 u45 u46 u47 u48 u49 u50 u51 u52 u53 u54 u55 u56 u57 u58 u59 u60 u61 u62 u63 u64 u65 u66 u67 u68 u69 u70 u71 u72 u73 u74 u75 u76 u77 u78 u79 u80 u81 u82 u83 u84 u85 u86 u87 u88 u89 u90 u91 u92 u93 u94 u95 u96 u97 u98 u99 u100 u101 u102 u103 u104 u105 u106 u107 u108 u109 u110 u111 u112 u113 u114 u115 u116 u117 u118 u119 u120 u121 u122 u123 u124 u125 u126 u127 u128 u129 u130 u131 u132 u133 u134 u135 u136 u137 u138 u139 u140 u141 u142 u143 u144 u145 u146 u147 u148 u149 u150 u151 u152 u153 u154 u155 u156 u157 u158 u159 u160 u161 u162 u163 u164 u165 u166 u167 u168 u169 u170 u171 u172 u173 u174 u175 u176 u177 u178 u179 u180 u181 u182 u183 u184 u185 u186 u187 u188 u189 u190 u191 u192 u193 u194 u195 u196 u197 u198 u199 u200 u201 u202 u203 u204 u205 u206 : Value} (ih : IH12 n) (h : WS X w ws n t sa allowed a4 n4 d4 a5 n5 d5 a6 n6 d6 a7 n7 d7 a8 n8 d8 a9 n9 d9 a10 n10 d10) (hg : ∀ t' ∈ FNode.tables t, Good n t' false allowed) (hba : ∀ b ∈ FNode.bases t, has allowed b = true) (hbk : has (FNode.keys t) k_base = decide (0 < (FNode.bases t).length)) :
    Code.wp Try.prog (dropSeq 17 (Try.f12.body.getD .skip)) (bodyPost Try.prog Try.f12 (PostW w)) ⟨#[u0, u1, sa, .pointer (some ⟨w.heap.size, 0, none⟩), u4, u5, u6, u7, u8, u9, .slice a10 n10 d10, u11, u12, u13, u14, u15, u16, u17, .slice a4 n4 d4, u19, u20, u21, u22, u23, u24, u25, u26, u27, u28, u29, u30, u31, u32, u33, u34, u35, u36, u37, u38, u39, u40, u41, u42, u43, u44, u45, u46, u47, u48, u49, u50, u51, u52, u53, u54, u55, u56, u57, u58, u59, u60, u61, u62, u63, u64, u65, u66, u67, u68, u69, u70, u71, u72, u73, u74, u75, u76, u77, u78, u79, u80, u81, u82, u83, u84, u85, u86, u87, u88, u89, u90, u91, u92, u93, u94, u95, u96, u97, u98, u99, u100, u101, u102, u103, u104, u105, u106, u107, u108, u109, u110, u111, u112, u113, u114, u115, u116, u117, u118, u119, u120, u121, u122, u123, u124, u125, u126, u127, u128, u129, u130, u131, u132, u133, u134, u135, u136, u137, u138, u139, u140, u141, u142, u143, u144, u145, u146, u147, u148, u149, u150, u151, u152, u153, u154, u155, u156, u157, u158, u159, u160, u161, u162, u163, u164, u165, u166, u167, u168, u169, u170, u171, u172, u173, u174, u175, u176, u177, u178, u179, u180, u181, u182, u183, u184, u185, u186, u187, u188, u189, u190, u191, u192, u193, u194, u195, u196, u197, u198, u199, u200, u201, u202, u203, u204, u205, u206], []⟩ ws := by
  obtain ⟨hn9, hmax⟩ := bases_len h.bas
  unfold maxLen at hmax
  have HW : Hid (WS X w ws n t sa allowed a4 n4 d4 a5 n5 d5 a6 n6 d6 a7 n7 d7 a8 n8 d8 a9 n9 d9 a10 n10 d10) := h
  have HG : Hid (∀ t' ∈ FNode.tables t, Good n t' false allowed) := hg
  have HBA : Hid (∀ b ∈ FNode.bases t, has allowed b = true) := hba
  have HIH : Hid (IH12 n) := ih
  have HBK : Hid (has (FNode.keys t) k_base = decide (0 < (FNode.bases t).length)) := hbk
  obtain ⟨bl0, bc0, bf0⟩ := h.box
  clear h hg ih hba hbk
  subst hn9
  obtain ⟨C, hC⟩ : ∃ C, C = dropSeq 19 (Try.f12.body.getD .skip) := ⟨_, rfl⟩
  have e : dropSeq 17 (Try.f12.body.getD .skip) = replTail 2 (dropSeq 17 (Try.f12.body.getD .skip)) C := by subst hC; rfl
  rw [e]
  have HC : Hid (C = dropSeq 19 (Try.f12.body.getD .skip)) := hC
  clear hC e
  conv => arg 2; whnf
  simp only [replTail]
  go_wp2_with fail
  refine (get26 _ _ _ _ _ _ _ _ _ _ a9 _ _ ws).mono ?_
  rintro e w' ⟨rfl, hb⟩
  have HB : Hid (Below ws.heap.size ws w') := hb
  clear hb bc0 bf0 bl0
  go_wp2_with fail
  refine (has39 k_base (HW.out.grow HB.out).keys).mono ?_
  rintro e w2 ⟨rfl, rfl⟩
  rw [HBK.out]
  by_cases hz : 0 < (FNode.bases t).length
  · have hd : decide (0 < (FNode.bases t).length) = true := by simpa using hz
    rw [hd]
    go_wp2
    rw [HC.out]
    exact w19 HIH.out (HW.out.grow HB.out) HG.out HBA.out
  · have hd : decide (0 < (FNode.bases t).length) = false := by simpa using hz
    rw [hd]
    go_wp2
    rw [HC.out]
    exact w19 HIH.out (HW.out.grow HB.out) HG.out HBA.out

set_option maxRecDepth 100000 in
set_option maxHeartbeats 2000000 in
theorem w16 {X : List Nat} {w ws : World} {n : Nat} {t : FTree (n + 1)} {sa : Value} {allowed : List ByteArray} {a4 a5 a6 a7 a8 a9 a10 : Option Addr} {n4 d4 n5 d5 n6 d6 n7 d7 n8 d8 n9 d9 n10 d10 : Nat} {u0 u1 u4 u5 u6 u7 u8 u9 u11 u12 u13 u14 u15 u16 u17 u19 u20 u21 u23 u24 u25 u26 u27 u28 u29 u30 u31 u32 u33 u34 u35 u36 u37 u38 u39 u40 u41 u42 u43 u44 u45 u46 u47 u48 u49 u50 u51 u52 u53 u54 u55 u56 u57 u58 u59 u60 u61 u62 u63 u64 u65 u66 u67 u68 u69 u70 u71 u72 u73 u74 u75 u76 u77 u78 u79 u80 u81 u82 u83 u84 u85 u86 u87 u88 u89 u90 u91 u92 u93 u94 u95 u96 u97 u98 u99 u100 u101 u102 u103 u104 u105 u106 u107 u108 u109 u110 u111 u112 u113 u114 u115 u116 u117 u118 u119 u120 u121 u122 u123 u124 u125 u126 u127 u128 u129 u130 u131 u132 u133 u134 u135 u136 u137 u138 u139 u140 u141 u142 u143 u144 u145 u146 u147 u148 u149 u150 u151 u152 u153 u154 u155 u156 u157 u158 u159 u160 u161 u162 u163 u164 u165 u166 u167 u168 u169 u170 u171 u172 u173 u174 u175 u176 u177 u178 u179 u180 u181 u182 u183 u184 u185 u186 u187 u188 u189 u190 u191 u192 u193 u194 u195 u196 u197 u198 u199 u200 u201 u202 u203 u204 u205 u206 : Value} (ih : IH12 n) (h : WS X w ws n t sa allowed a4 n4 d4 a5 n5 d5 a6 n6 d6 a7 n7 d7 a8 n8 d8 a9 n9 d9 a10 n10 d10) (hg : ∀ t' ∈ FNode.tables t, Good n t' false allowed) (hba : ∀ b ∈ FNode.bases t, has allowed b = true) (hbk : has (FNode.keys t) k_base = decide (0 < (FNode.bases t).length)) (htg : ∀ g ∈ FNode.together t, 2 ≤ g.length) :
    Code.wp Try.prog (dropSeq 16 (Try.f12.body.getD .skip)) (bodyPost Try.prog Try.f12 (PostW w)) ⟨#[u0, u1, sa, .pointer (some ⟨w.heap.size, 0, none⟩), u4, u5, u6, u7, u8, u9, .slice a10 n10 d10, u11, u12, u13, u14, u15, u16, u17, .slice a4 n4 d4, u19, u20, u21, .slice a6 n6 d6, u23, u24, u25, u26, u27, u28, u29, u30, u31, u32, u33, u34, u35, u36, u37, u38, u39, u40, u41, u42, u43, u44, u45, u46, u47, u48, u49, u50, u51, u52, u53, u54, u55, u56, u57, u58, u59, u60, u61, u62, u63, u64, u65, u66, u67, u68, u69, u70, u71, u72, u73, u74, u75, u76, u77, u78, u79, u80, u81, u82, u83, u84, u85, u86, u87, u88, u89, u90, u91, u92, u93, u94, u95, u96, u97, u98, u99, u100, u101, u102, u103, u104, u105, u106, u107, u108, u109, u110, u111, u112, u113, u114, u115, u116, u117, u118, u119, u120, u121, u122, u123, u124, u125, u126, u127, u128, u129, u130, u131, u132, u133, u134, u135, u136, u137, u138, u139, u140, u141, u142, u143, u144, u145, u146, u147, u148, u149, u150, u151, u152, u153, u154, u155, u156, u157, u158, u159, u160, u161, u162, u163, u164, u165, u166, u167, u168, u169, u170, u171, u172, u173, u174, u175, u176, u177, u178, u179, u180, u181, u182, u183, u184, u185, u186, u187, u188, u189, u190, u191, u192, u193, u194, u195, u196, u197, u198, u199, u200, u201, u202, u203, u204, u205, u206], []⟩ ws := by
  obtain ⟨hn6, hmax⟩ := groups_len h.tog
  unfold maxLen at hmax
  have HW : Hid (WS X w ws n t sa allowed a4 n4 d4 a5 n5 d5 a6 n6 d6 a7 n7 d7 a8 n8 d8 a9 n9 d9 a10 n10 d10) := h
  have HG : Hid (∀ t' ∈ FNode.tables t, Good n t' false allowed) := hg
  have HBA : Hid (∀ b ∈ FNode.bases t, has allowed b = true) := hba
  have HIH : Hid (IH12 n) := ih
  have HBK : Hid (has (FNode.keys t) k_base = decide (0 < (FNode.bases t).length)) := hbk
  have HTG : Hid (∀ g ∈ FNode.together t, 2 ≤ g.length) := htg
  clear h hg ih hba hbk htg
  subst hn6
  obtain ⟨C, hC⟩ : ∃ C, C = dropSeq 17 (Try.f12.body.getD .skip) := ⟨_, rfl⟩
  have e : dropSeq 16 (Try.f12.body.getD .skip) = replTail 1 (dropSeq 16 (Try.f12.body.getD .skip)) C := by subst hC; rfl
  rw [e]
  have HC : Hid (C = dropSeq 17 (Try.f12.body.getD .skip)) := hC
  clear hC e
  conv => arg 2; whnf
  simp only [replTail]
  go_wp2
  go_loopw [23] (fun i wq => ∃ k : Nat, k ≤ (FNode.together t).length ∧ i = .int .i64 k ∧ wq = ws) (fun i _ => (FNode.together t).length - (intOf i).toNat)
  case atStart => exact ⟨0, Nat.zero_le _, rfl, by first | rfl | trivial⟩
  case round =>
    obtain ⟨k, hk, rfl, rfl⟩ := hrel
    by_cases hlt : k < (FNode.together t).length
    · obtain ⟨g, a', c', e, hgl, hcell, -, hml⟩ := groups_at HW.out.tog hlt
      subst e
      unfold maxLen at hml
      have h2 := HTG.out _ (List.getElem_mem hlt)
      generalize (FNode.together t)[k].length = m at *
      go_wp2
      go_roundw
      case rel => exact ⟨k + 1, by omega, by go_num, by first | rfl | trivial⟩
      case measure => simp [intOf]; omega
    · go_wp2
      rw [HC.out]
      exact w17 HIH.out HW.out HG.out HBA.out HBK.out

set_option maxRecDepth 100000 in
set_option maxHeartbeats 2000000 in
theorem w15 {X : List Nat} {w ws : World} {n : Nat} {t : FTree (n + 1)} {sa : Value} {allowed : List ByteArray} {a4 a5 a6 a7 a8 a9 a10 : Option Addr} {n4 d4 n5 d5 n6 d6 n7 d7 n8 d8 n9 d9 n10 d10 : Nat} {u0 u1 u4 u5 u6 u7 u8 u9 u11 u12 u13 u14 u15 u16 u17 u19 u20 u21 u22 u23 u24 u25 u26 u27 u28 u29 u30 u31 u32 u33 u34 u35 u36 u37 u38 u39 u40 u41 u42 u43 u44 u45 u46 u47 u48 u49 u50 u51 u52 u53 u54 u55 u56 u57 u58 u59 u60 u61 u62 u63 u64 u65 u66 u67 u68 u69 u70 u71 u72 u73 u74 u75 u76 u77 u78 u79 u80 u81 u82 u83 u84 u85 u86 u87 u88 u89 u90 u91 u92 u93 u94 u95 u96 u97 u98 u99 u100 u101 u102 u103 u104 u105 u106 u107 u108 u109 u110 u111 u112 u113 u114 u115 u116 u117 u118 u119 u120 u121 u122 u123 u124 u125 u126 u127 u128 u129 u130 u131 u132 u133 u134 u135 u136 u137 u138 u139 u140 u141 u142 u143 u144 u145 u146 u147 u148 u149 u150 u151 u152 u153 u154 u155 u156 u157 u158 u159 u160 u161 u162 u163 u164 u165 u166 u167 u168 u169 u170 u171 u172 u173 u174 u175 u176 u177 u178 u179 u180 u181 u182 u183 u184 u185 u186 u187 u188 u189 u190 u191 u192 u193 u194 u195 u196 u197 u198 u199 u200 u201 u202 u203 u204 u205 u206 : Value} (ih : IH12 n) (h : WS X w ws n t sa allowed a4 n4 d4 a5 n5 d5 a6 n6 d6 a7 n7 d7 a8 n8 d8 a9 n9 d9 a10 n10 d10) (hg : ∀ t' ∈ FNode.tables t, Good n t' false allowed) (hba : ∀ b ∈ FNode.bases t, has allowed b = true) (hbk : has (FNode.keys t) k_base = decide (0 < (FNode.bases t).length)) (htg : ∀ g ∈ FNode.together t, 2 ≤ g.length) :
    Code.wp Try.prog (dropSeq 15 (Try.f12.body.getD .skip)) (bodyPost Try.prog Try.f12 (PostW w)) ⟨#[u0, u1, sa, .pointer (some ⟨w.heap.size, 0, none⟩), u4, u5, u6, u7, u8, u9, .slice a10 n10 d10, u11, u12, u13, u14, u15, u16, u17, .slice a4 n4 d4, u19, u20, u21, u22, u23, u24, u25, u26, u27, u28, u29, u30, u31, u32, u33, u34, u35, u36, u37, u38, u39, u40, u41, u42, u43, u44, u45, u46, u47, u48, u49, u50, u51, u52, u53, u54, u55, u56, u57, u58, u59, u60, u61, u62, u63, u64, u65, u66, u67, u68, u69, u70, u71, u72, u73, u74, u75, u76, u77, u78, u79, u80, u81, u82, u83, u84, u85, u86, u87, u88, u89, u90, u91, u92, u93, u94, u95, u96, u97, u98, u99, u100, u101, u102, u103, u104, u105, u106, u107, u108, u109, u110, u111, u112, u113, u114, u115, u116, u117, u118, u119, u120, u121, u122, u123, u124, u125, u126, u127, u128, u129, u130, u131, u132, u133, u134, u135, u136, u137, u138, u139, u140, u141, u142, u143, u144, u145, u146, u147, u148, u149, u150, u151, u152, u153, u154, u155, u156, u157, u158, u159, u160, u161, u162, u163, u164, u165, u166, u167, u168, u169, u170, u171, u172, u173, u174, u175, u176, u177, u178, u179, u180, u181, u182, u183, u184, u185, u186, u187, u188, u189, u190, u191, u192, u193, u194, u195, u196, u197, u198, u199, u200, u201, u202, u203, u204, u205, u206], []⟩ ws := by
  have HW : Hid (WS X w ws n t sa allowed a4 n4 d4 a5 n5 d5 a6 n6 d6 a7 n7 d7 a8 n8 d8 a9 n9 d9 a10 n10 d10) := h
  have HG : Hid (∀ t' ∈ FNode.tables t, Good n t' false allowed) := hg
  have HBA : Hid (∀ b ∈ FNode.bases t, has allowed b = true) := hba
  have HIH : Hid (IH12 n) := ih
  have HBK : Hid (has (FNode.keys t) k_base = decide (0 < (FNode.bases t).length)) := hbk
  have HTG : Hid (∀ g ∈ FNode.together t, 2 ≤ g.length) := htg
  obtain ⟨bl0, bc0, bf0⟩ := h.box
  clear h hg ih hba hbk htg
  obtain ⟨C, hC⟩ : ∃ C, C = dropSeq 16 (Try.f12.body.getD .skip) := ⟨_, rfl⟩
  have e : dropSeq 15 (Try.f12.body.getD .skip) = replTail 1 (dropSeq 15 (Try.f12.body.getD .skip)) C := by subst hC; rfl
  rw [e]
  have HC : Hid (C = dropSeq 16 (Try.f12.body.getD .skip)) := hC
  clear hC e
  conv => arg 2; whnf
  simp only [replTail]
  go_wp2_with fail
  refine (get36 _ _ _ _ _ _ _ _ _ _ _ ws).mono ?_
  rintro e w' ⟨rfl, hb⟩
  have HB : Hid (Below ws.heap.size ws w') := hb
  clear hb bc0 bf0 bl0
  go_wp2
  rw [HC.out]
  exact w16 HIH.out (HW.out.grow HB.out) HG.out HBA.out HBK.out HTG.out
end Go.Proofs.Qxb6601023a
