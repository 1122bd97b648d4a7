/-
  OWN WORK. zzWellFormed_b1 (12): the names: none empty, no two alike; 'one of' names some of them.
-/
import Derived.Test.Qxb6601023aWellB
import Derived.Deep.QuietTactic
import Derived.BigQuiet
import Derived.WalkSmall
namespace Go.Proofs.Qxb6601023a
open Go.RowKit Go.Flow
set_option linter.unusedVariables false
set_option linter.unusedSimpArgs false

set_option maxRecDepth 100000 in
set_option maxHeartbeats 2000000 in
theorem w11 {X : List Nat} {w ws : World} {n : Nat} {t : FTree (n + 1)} {sa : Value} {allowed : List ByteArray} {a4 a5 a6 a7 a8 a9 a10 : Option Addr} {n4 d4 n5 d5 n6 d6 n7 d7 n8 d8 n9 d9 n10 d10 : Nat} {aa : Option Addr} {na da : Nat} {u0 u1 u4 u5 u6 u7 u8 u9 u12 u13 u14 u15 u17 u18 u19 u20 u21 u22 u23 u24 u25 u26 u27 u28 u29 u30 u31 u32 u33 u34 u35 u36 u37 u38 u39 u40 u41 u42 u43 u44 u45 u46 u47 u48 u49 u50 u51 u52 u53 u54 u55 u56 u57 u58 u59 u60 u61 u62 u63 u64 u65 u66 u67 u68 u69 u70 u71 u72 u73 u74 u75 u76 u77 u78 u79 u80 u81 u82 u83 u84 u85 u86 u87 u88 u89 u90 u91 u92 u93 u94 u95 u96 u97 u98 u99 u100 u101 u102 u103 u104 u105 u106 u107 u108 u109 u110 u111 u112 u113 u114 u115 u116 u117 u118 u119 u120 u121 u122 u123 u124 u125 u126 u127 u128 u129 u130 u131 u132 u133 u134 u135 u136 u137 u138 u139 u140 u141 u142 u143 u144 u145 u146 u147 u148 u149 u150 u151 u152 u153 u154 u155 u156 u157 u158 u159 u160 u161 u162 u163 u164 u165 u166 u167 u168 u169 u170 u171 u172 u173 u174 u175 u176 u177 u178 u179 u180 u181 u182 u183 u184 u185 u186 u187 u188 u189 u190 u191 u192 u193 u194 u195 u196 u197 u198 u199 u200 u201 u202 u203 u204 u205 u206 : Value} (ih : IH12 n) (h : WS X w ws n t sa allowed a4 n4 d4 a5 n5 d5 a6 n6 d6 a7 n7 d7 a8 n8 d8 a9 n9 d9 a10 n10 d10) (hg : ∀ t' ∈ FNode.tables t, Good n t' false allowed) (hba : ∀ b ∈ FNode.bases t, has allowed b = true) (hbk : has (FNode.keys t) k_base = decide (0 < (FNode.bases t).length)) (htg : ∀ g ∈ FNode.together t, 2 ≤ g.length) (hct : ∀ c ∈ FNode.counts t, (has (FNode.keys t) c.1 = true ∨ has (FNode.optional t) c.1 = true) ∧ c.2.1.toList.isEmpty = false ∧ 0 ≤ c.2.2) (hone : ∀ x ∈ FNode.oneOf t, has (allOf t) x = true) (hall : Strs [] ws (.slice aa na da) (allOf t)) :
    Code.wp Try.prog (dropSeq 11 (Try.f12.body.getD .skip)) (bodyPost Try.prog Try.f12 (PostW w)) ⟨#[u0, u1, sa, .pointer (some ⟨w.heap.size, 0, none⟩), u4, u5, u6, u7, u8, u9, .slice a10 n10 d10, .slice aa na da, u12, u13, u14, u15, .slice a7 n7 d7, u17, u18, u19, u20, u21, u22, u23, u24, u25, u26, u27, u28, u29, u30, u31, u32, u33, u34, u35, u36, u37, u38, u39, u40, u41, u42, u43, u44, u45, u46, u47, u48, u49, u50, u51, u52, u53, u54, u55, u56, u57, u58, u59, u60, u61, u62, u63, u64, u65, u66, u67, u68, u69, u70, u71, u72, u73, u74, u75, u76, u77, u78, u79, u80, u81, u82, u83, u84, u85, u86, u87, u88, u89, u90, u91, u92, u93, u94, u95, u96, u97, u98, u99, u100, u101, u102, u103, u104, u105, u106, u107, u108, u109, u110, u111, u112, u113, u114, u115, u116, u117, u118, u119, u120, u121, u122, u123, u124, u125, u126, u127, u128, u129, u130, u131, u132, u133, u134, u135, u136, u137, u138, u139, u140, u141, u142, u143, u144, u145, u146, u147, u148, u149, u150, u151, u152, u153, u154, u155, u156, u157, u158, u159, u160, u161, u162, u163, u164, u165, u166, u167, u168, u169, u170, u171, u172, u173, u174, u175, u176, u177, u178, u179, u180, u181, u182, u183, u184, u185, u186, u187, u188, u189, u190, u191, u192, u193, u194, u195, u196, u197, u198, u199, u200, u201, u202, u203, u204, u205, u206], []⟩ ws := by
  obtain ⟨hn7, hmax⟩ := strs_len h.one
  unfold maxLen at hmax
  have HW : Hid (WS X w ws n t sa allowed a4 n4 d4 a5 n5 d5 a6 n6 d6 a7 n7 d7 a8 n8 d8 a9 n9 d9 a10 n10 d10) := h
  have HG : Hid (∀ t' ∈ FNode.tables t, Good n t' false allowed) := hg
  have HBA : Hid (∀ b ∈ FNode.bases t, has allowed b = true) := hba
  have HIH : Hid (IH12 n) := ih
  have HBK : Hid (has (FNode.keys t) k_base = decide (0 < (FNode.bases t).length)) := hbk
  have HTG : Hid (∀ g ∈ FNode.together t, 2 ≤ g.length) := htg
  have HCT : Hid (∀ c ∈ FNode.counts t, (has (FNode.keys t) c.1 = true ∨ has (FNode.optional t) c.1 = true) ∧ c.2.1.toList.isEmpty = false ∧ 0 ≤ c.2.2) := hct
  have HON : Hid (∀ x ∈ FNode.oneOf t, has (allOf t) x = true) := hone
  have HAL : Hid (Strs [] ws (.slice aa na da) (allOf t)) := hall
  clear h hg ih hba hbk htg hct hone hall
  subst hn7
  obtain ⟨C, hC⟩ : ∃ C, C = dropSeq 12 (Try.f12.body.getD .skip) := ⟨_, rfl⟩
  have e : dropSeq 11 (Try.f12.body.getD .skip) = replTail 1 (dropSeq 11 (Try.f12.body.getD .skip)) C := by subst hC; rfl
  rw [e]
  have HC : Hid (C = dropSeq 12 (Try.f12.body.getD .skip)) := hC
  clear hC e
  conv => arg 2; whnf
  simp only [replTail]
  go_wp2
  go_loopw [17] (fun i wq => ∃ k : Nat, k ≤ (FNode.oneOf t).length ∧ i = .int .i64 k ∧ wq = ws) (fun i _ => (FNode.oneOf t).length - (intOf i).toNat)
  case atStart => exact ⟨0, Nat.zero_le _, rfl, by first | rfl | trivial⟩
  case round =>
    obtain ⟨k, hk, rfl, rfl⟩ := hrel
    by_cases hlt : k < (FNode.oneOf t).length
    · obtain ⟨g, e, hgl, hcell⟩ := strs_at HW.out.one hlt
      subst e
      have hh := HON.out _ (List.getElem_mem hlt)
      go_wp2_with fail
      refine (has39 _ HAL.out).mono ?_
      rintro e w2 ⟨rfl, rfl⟩
      rw [hh]
      go_wp2
      go_roundw
      case rel => exact ⟨k + 1, by omega, by go_num, by first | rfl | trivial⟩
      case measure => simp [intOf]; omega
    · go_wp2
      rw [HC.out]
      exact w12 HIH.out HW.out HG.out HBA.out HBK.out HTG.out HCT.out

set_option maxRecDepth 100000 in
set_option maxHeartbeats 2000000 in
theorem w10 {X : List Nat} {w ws : World} {n : Nat} {t : FTree (n + 1)} {sa : Value} {allowed : List ByteArray} {a4 a5 a6 a7 a8 a9 a10 : Option Addr} {n4 d4 n5 d5 n6 d6 n7 d7 n8 d8 n9 d9 n10 d10 : Nat} {aa : Option Addr} {na da : Nat} {u0 u1 u4 u5 u6 u7 u8 u9 u12 u13 u14 u15 u16 u17 u18 u19 u20 u21 u22 u23 u24 u25 u26 u27 u28 u29 u30 u31 u32 u33 u34 u35 u36 u37 u38 u39 u40 u41 u42 u43 u44 u45 u46 u47 u48 u49 u50 u51 u52 u53 u54 u55 u56 u57 u58 u59 u60 u61 u62 u63 u64 u65 u66 u67 u68 u69 u70 u71 u72 u73 u74 u75 u76 u77 u78 u79 u80 u81 u82 u83 u84 u85 u86 u87 u88 u89 u90 u91 u92 u93 u94 u95 u96 u97 u98 u99 u100 u101 u102 u103 u104 u105 u106 u107 u108 u109 u110 u111 u112 u113 u114 u115 u116 u117 u118 u119 u120 u121 u122 u123 u124 u125 u126 u127 u128 u129 u130 u131 u132 u133 u134 u135 u136 u137 u138 u139 u140 u141 u142 u143 u144 u145 u146 u147 u148 u149 u150 u151 u152 u153 u154 u155 u156 u157 u158 u159 u160 u161 u162 u163 u164 u165 u166 u167 u168 u169 u170 u171 u172 u173 u174 u175 u176 u177 u178 u179 u180 u181 u182 u183 u184 u185 u186 u187 u188 u189 u190 u191 u192 u193 u194 u195 u196 u197 u198 u199 u200 u201 u202 u203 u204 u205 u206 : Value} (ih : IH12 n) (h : WS X w ws n t sa allowed a4 n4 d4 a5 n5 d5 a6 n6 d6 a7 n7 d7 a8 n8 d8 a9 n9 d9 a10 n10 d10) (hg : ∀ t' ∈ FNode.tables t, Good n t' false allowed) (hba : ∀ b ∈ FNode.bases t, has allowed b = true) (hbk : has (FNode.keys t) k_base = decide (0 < (FNode.bases t).length)) (htg : ∀ g ∈ FNode.together t, 2 ≤ g.length) (hct : ∀ c ∈ FNode.counts t, (has (FNode.keys t) c.1 = true ∨ has (FNode.optional t) c.1 = true) ∧ c.2.1.toList.isEmpty = false ∧ 0 ≤ c.2.2) (hone : ∀ x ∈ FNode.oneOf t, has (allOf t) x = true) (hall : Strs [] ws (.slice aa na da) (allOf t)) :
    Code.wp Try.prog (dropSeq 10 (Try.f12.body.getD .skip)) (bodyPost Try.prog Try.f12 (PostW w)) ⟨#[u0, u1, sa, .pointer (some ⟨w.heap.size, 0, none⟩), u4, u5, u6, u7, u8, u9, .slice a10 n10 d10, .slice aa na da, u12, u13, u14, u15, u16, u17, u18, u19, u20, u21, u22, u23, u24, u25, u26, u27, u28, u29, u30, u31, u32, u33, u34, u35, u36, u37, u38, u39, u40, u41, u42, u43, u44, u45, u46, u47, u48, u49, u50, u51, u52, u53, u54, u55, u56, u57, u58, u59, u60, u61, u62, u63, u64, u65, u66, u67, u68, u69, u70, u71, u72, u73, u74, u75, u76, u77, u78, u79, u80, u81, u82, u83, u84, u85, u86, u87, u88, u89, u90, u91, u92, u93, u94, u95, u96, u97, u98, u99, u100, u101, u102, u103, u104, u105, u106, u107, u108, u109, u110, u111, u112, u113, u114, u115, u116, u117, u118, u119, u120, u121, u122, u123, u124, u125, u126, u127, u128, u129, u130, u131, u132, u133, u134, u135, u136, u137, u138, u139, u140, u141, u142, u143, u144, u145, u146, u147, u148, u149, u150, u151, u152, u153, u154, u155, u156, u157, u158, u159, u160, u161, u162, u163, u164, u165, u166, u167, u168, u169, u170, u171, u172, u173, u174, u175, u176, u177, u178, u179, u180, u181, u182, u183, u184, u185, u186, u187, u188, u189, u190, u191, u192, u193, u194, u195, u196, u197, u198, u199, u200, u201, u202, u203, u204, u205, u206], []⟩ ws := by
  have HW : Hid (WS X w ws n t sa allowed a4 n4 d4 a5 n5 d5 a6 n6 d6 a7 n7 d7 a8 n8 d8 a9 n9 d9 a10 n10 d10) := h
  have HG : Hid (∀ t' ∈ FNode.tables t, Good n t' false allowed) := hg
  have HBA : Hid (∀ b ∈ FNode.bases t, has allowed b = true) := hba
  have HIH : Hid (IH12 n) := ih
  have HBK : Hid (has (FNode.keys t) k_base = decide (0 < (FNode.bases t).length)) := hbk
  have HTG : Hid (∀ g ∈ FNode.together t, 2 ≤ g.length) := htg
  have HCT : Hid (∀ c ∈ FNode.counts t, (has (FNode.keys t) c.1 = true ∨ has (FNode.optional t) c.1 = true) ∧ c.2.1.toList.isEmpty = false ∧ 0 ≤ c.2.2) := hct
  have HON : Hid (∀ x ∈ FNode.oneOf t, has (allOf t) x = true) := hone
  have HAL : Hid (Strs [] ws (.slice aa na da) (allOf t)) := hall
  obtain ⟨bl0, bc0, bf0⟩ := h.box
  clear h hg ih hba hbk htg hct hone hall
  obtain ⟨C, hC⟩ : ∃ C, C = dropSeq 11 (Try.f12.body.getD .skip) := ⟨_, rfl⟩
  have e : dropSeq 10 (Try.f12.body.getD .skip) = replTail 1 (dropSeq 10 (Try.f12.body.getD .skip)) C := by subst hC; rfl
  rw [e]
  have HC : Hid (C = dropSeq 11 (Try.f12.body.getD .skip)) := hC
  clear hC e
  conv => arg 2; whnf
  simp only [replTail]
  go_wp2_with fail
  refine (get37 _ _ _ _ _ _ _ _ _ _ _ ws).mono ?_
  rintro e w1 ⟨rfl, hb1⟩
  have HS1 := hide (HW.out.grow hb1)
  have HA1 := hide (HAL.out.keep (Keep.of_below hb1))
  clear bc0 bf0 bl0 hb1
  go_wp2
  rw [HC.out]
  exact w11 HIH.out (unhide HS1) HG.out HBA.out HBK.out HTG.out HCT.out HON.out (unhide HA1)

set_option maxRecDepth 100000 in
set_option maxHeartbeats 2000000 in
theorem w9 {X : List Nat} {w ws : World} {n : Nat} {t : FTree (n + 1)} {sa : Value} {allowed : List ByteArray} {a4 a5 a6 a7 a8 a9 a10 : Option Addr} {n4 d4 n5 d5 n6 d6 n7 d7 n8 d8 n9 d9 n10 d10 : Nat} {aa : Option Addr} {na da : Nat} {u0 u1 u4 u5 u6 u7 u8 u9 u12 u13 u14 u15 u16 u17 u18 u19 u20 u21 u22 u23 u24 u25 u26 u27 u28 u29 u30 u31 u32 u33 u34 u35 u36 u37 u38 u39 u40 u41 u42 u43 u44 u45 u46 u47 u48 u49 u50 u51 u52 u53 u54 u55 u56 u57 u58 u59 u60 u61 u62 u63 u64 u65 u66 u67 u68 u69 u70 u71 u72 u73 u74 u75 u76 u77 u78 u79 u80 u81 u82 u83 u84 u85 u86 u87 u88 u89 u90 u91 u92 u93 u94 u95 u96 u97 u98 u99 u100 u101 u102 u103 u104 u105 u106 u107 u108 u109 u110 u111 u112 u113 u114 u115 u116 u117 u118 u119 u120 u121 u122 u123 u124 u125 u126 u127 u128 u129 u130 u131 u132 u133 u134 u135 u136 u137 u138 u139 u140 u141 u142 u143 u144 u145 u146 u147 u148 u149 u150 u151 u152 u153 u154 u155 u156 u157 u158 u159 u160 u161 u162 u163 u164 u165 u166 u167 u168 u169 u170 u171 u172 u173 u174 u175 u176 u177 u178 u179 u180 u181 u182 u183 u184 u185 u186 u187 u188 u189 u190 u191 u192 u193 u194 u195 u196 u197 u198 u199 u200 u201 u202 u203 u204 u205 u206 : Value} (ih : IH12 n) (h : WS X w ws n t sa allowed a4 n4 d4 a5 n5 d5 a6 n6 d6 a7 n7 d7 a8 n8 d8 a9 n9 d9 a10 n10 d10) (hg : ∀ t' ∈ FNode.tables t, Good n t' false allowed) (hba : ∀ b ∈ FNode.bases t, has allowed b = true) (hbk : has (FNode.keys t) k_base = decide (0 < (FNode.bases t).length)) (htg : ∀ g ∈ FNode.together t, 2 ≤ g.length) (hct : ∀ c ∈ FNode.counts t, (has (FNode.keys t) c.1 = true ∨ has (FNode.optional t) c.1 = true) ∧ c.2.1.toList.isEmpty = false ∧ 0 ≤ c.2.2) (hone : ∀ x ∈ FNode.oneOf t, has (allOf t) x = true) (hall : Strs [] ws (.slice aa na da) (allOf t)) (hpos : 0 < (allOf t).length)
    (hdis : ∀ i (hi : i < (allOf t).length), (allOf t)[i].toList.isEmpty = false ∧ ∀ j (hj : j < (allOf t).length), i < j → ((allOf t)[i].toList == (allOf t)[j].toList) = false) :
    Code.wp Try.prog (dropSeq 9 (Try.f12.body.getD .skip)) (bodyPost Try.prog Try.f12 (PostW w)) ⟨#[u0, u1, sa, .pointer (some ⟨w.heap.size, 0, none⟩), u4, u5, u6, u7, u8, u9, .slice a10 n10 d10, .slice aa na da, u12, u13, u14, u15, u16, u17, u18, u19, u20, u21, u22, u23, u24, u25, u26, u27, u28, u29, u30, u31, u32, u33, u34, u35, u36, u37, u38, u39, u40, u41, u42, u43, u44, u45, u46, u47, u48, u49, u50, u51, u52, u53, u54, u55, u56, u57, u58, u59, u60, u61, u62, u63, u64, u65, u66, u67, u68, u69, u70, u71, u72, u73, u74, u75, u76, u77, u78, u79, u80, u81, u82, u83, u84, u85, u86, u87, u88, u89, u90, u91, u92, u93, u94, u95, u96, u97, u98, u99, u100, u101, u102, u103, u104, u105, u106, u107, u108, u109, u110, u111, u112, u113, u114, u115, u116, u117, u118, u119, u120, u121, u122, u123, u124, u125, u126, u127, u128, u129, u130, u131, u132, u133, u134, u135, u136, u137, u138, u139, u140, u141, u142, u143, u144, u145, u146, u147, u148, u149, u150, u151, u152, u153, u154, u155, u156, u157, u158, u159, u160, u161, u162, u163, u164, u165, u166, u167, u168, u169, u170, u171, u172, u173, u174, u175, u176, u177, u178, u179, u180, u181, u182, u183, u184, u185, u186, u187, u188, u189, u190, u191, u192, u193, u194, u195, u196, u197, u198, u199, u200, u201, u202, u203, u204, u205, u206], []⟩ ws := by
  obtain ⟨hna, hmax⟩ := strs_len hall
  unfold maxLen at hmax
  obtain ⟨g, e, hgl, -⟩ := strs_at hall hpos
  subst e
  have hcells : ∀ k (hk : k < (allOf t).length), ws.cell? ⟨g, k, none⟩ = some (.string (allOf t)[k]) := fun k hk => by
    obtain ⟨g', e', -, h'⟩ := strs_at hall hk
    cases e'
    exact h'
  have HCE : Hid (∀ k (hk : k < (allOf t).length), ws.cell? ⟨g, k, none⟩ = some (.string (allOf t)[k])) := hcells
  have HDI : Hid (∀ i (hi : i < (allOf t).length), (allOf t)[i].toList.isEmpty = false ∧ ∀ j (hj : j < (allOf t).length), i < j → ((allOf t)[i].toList == (allOf t)[j].toList) = false) := hdis
  have HW : Hid (WS X w ws n t sa allowed a4 n4 d4 a5 n5 d5 a6 n6 d6 a7 n7 d7 a8 n8 d8 a9 n9 d9 a10 n10 d10) := h
  have HG : Hid (∀ t' ∈ FNode.tables t, Good n t' false allowed) := hg
  have HBA : Hid (∀ b ∈ FNode.bases t, has allowed b = true) := hba
  have HIH : Hid (IH12 n) := ih
  have HBK : Hid (has (FNode.keys t) k_base = decide (0 < (FNode.bases t).length)) := hbk
  have HTG : Hid (∀ g ∈ FNode.together t, 2 ≤ g.length) := htg
  have HCT : Hid (∀ c ∈ FNode.counts t, (has (FNode.keys t) c.1 = true ∨ has (FNode.optional t) c.1 = true) ∧ c.2.1.toList.isEmpty = false ∧ 0 ≤ c.2.2) := hct
  have HON : Hid (∀ x ∈ FNode.oneOf t, has (allOf t) x = true) := hone
  have HAL : Hid (Strs [] ws (.slice (some ⟨g, 0, none⟩) na da) (allOf t)) := hall
  clear h hg ih hba hbk htg hct hone hall hcells hdis
  subst hna
  obtain ⟨C, hC⟩ : ∃ C, C = dropSeq 10 (Try.f12.body.getD .skip) := ⟨_, rfl⟩
  have e : dropSeq 9 (Try.f12.body.getD .skip) = replTail 1 (dropSeq 9 (Try.f12.body.getD .skip)) C := by subst hC; rfl
  rw [e]
  have HC : Hid (C = dropSeq 10 (Try.f12.body.getD .skip)) := hC
  clear hC e
  conv => arg 2; whnf
  simp only [replTail]
  go_wp2
  go_loopw [14, 15] (fun i _ wq => ∃ k : Nat, k ≤ (allOf t).length ∧ i = .int .i64 k ∧ Below ws.heap.size ws wq) (fun i _ _ => (allOf t).length - (intOf i).toNat)
  case atStart => exact ⟨0, Nat.zero_le _, rfl, Below.refl _ _⟩
  case round =>
    obtain ⟨k, hk, rfl, hbr⟩ := hrel
    have HBR : Hid (Below ws.heap.size ws wr) := hbr
    by_cases hlt : k < (allOf t).length
    · have hck := cell_up hbr hgl (HCE.out k hlt)
      have hne := (HDI.out k hlt).1
      clear hbr
      go_wp2
      go_loopw [15] (fun j wq => ∃ m : Nat, k < m ∧ m ≤ (allOf t).length ∧ j = .int .i64 m ∧ Below ws.heap.size ws wq) (fun j _ => (allOf t).length - (intOf j).toNat)
      case atStart => exact ⟨k + 1, by omega, by omega, by go_num, HBR.out⟩
      case round =>
        obtain ⟨m, hkm, hm, rfl, hbq⟩ := hrel
        rename_i wr0 _ _ _ _ _
        have HBQ := hide hbq
        by_cases hltm : m < (allOf t).length
        · have c1 := cell_up hbq hgl (HCE.out k hlt)
          have c2 := cell_up hbq hgl (HCE.out m hltm)
          have hnq := (HDI.out k hlt).2 m hltm hkm
          have i1 : (0 : Int) ≤ (k : Int) := by omega
          have i2 : (k : Int) < ((allOf t).length : Int) := by omega
          have i3 : (0 : Int) ≤ (m : Int) := by omega
          have i4 : (m : Int) < ((allOf t).length : Int) := by omega
          clear hbq hck hne
          go_wp2
          go_quiet (fail)
          go_wp2
          go_roundw
          case rel => exact ⟨m + 1, by omega, by omega, by go_num, below_drewN (unhide HBQ) _⟩
          case measure => simp [intOf]; omega
        · clear hbq hck hne
          go_wp2
          go_roundw
          case rel => exact ⟨k + 1, by omega, by go_num, unhide HBQ⟩
          case measure => simp [intOf]; omega
    · clear hbr
      go_wp2
      rw [HC.out]
      exact w10 HIH.out (HW.out.grow HBR.out) HG.out HBA.out HBK.out HTG.out HCT.out HON.out (HAL.out.keep (Keep.of_below HBR.out))
end Go.Proofs.Qxb6601023a
