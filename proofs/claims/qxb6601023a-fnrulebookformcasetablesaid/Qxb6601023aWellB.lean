/-
  OWN WORK. zzWellFormed_b1 (12): the counts.
-/
import Derived.Test.Qxb6601023aWellA
namespace Go.Proofs.Qxb6601023a
open Go.RowKit Go.Flow
set_option linter.unusedVariables false
set_option linter.unusedSimpArgs false

theorem hide {p : Prop} (h : p) : Hid p := h
theorem unhide {p : Prop} (h : Hid p) : p := h

set_option maxRecDepth 100000 in
set_option maxHeartbeats 2000000 in
theorem w14 {X : List Nat} {w ws : World} {n : Nat} {t : FTree (n + 1)} {sa : Value} {allowed : List ByteArray} {a4 a5 a6 a7 a8 a9 a10 : Option Addr} {n4 d4 n5 d5 n6 d6 n7 d7 n8 d8 n9 d9 n10 d10 : Nat} {u0 u1 u4 u5 u6 u7 u8 u9 u11 u12 u13 u14 u15 u16 u17 u20 u21 u22 u23 u24 u25 u26 u27 u28 u29 u30 u31 u32 u33 u34 u35 u36 u37 u38 u39 u40 u41 u42 u43 u44 u45 u46 u47 u48 u49 u50 u51 u52 u53 u54 u55 u56 u57 u58 u59 u60 u61 u62 u63 u64 u65 u66 u67 u68 u69 u70 u71 u72 u73 u74 u75 u76 u77 u78 u79 u80 u81 u82 u83 u84 u85 u86 u87 u88 u89 u90 u91 u92 u93 u94 u95 u96 u97 u98 u99 u100 u101 u102 u103 u104 u105 u106 u107 u108 u109 u110 u111 u112 u113 u114 u115 u116 u117 u118 u119 u120 u121 u122 u123 u124 u125 u126 u127 u128 u129 u130 u131 u132 u133 u134 u135 u136 u137 u138 u139 u140 u141 u142 u143 u144 u145 u146 u147 u148 u149 u150 u151 u152 u153 u154 u155 u156 u157 u158 u159 u160 u161 u162 u163 u164 u165 u166 u167 u168 u169 u170 u171 u172 u173 u174 u175 u176 u177 u178 u179 u180 u181 u182 u183 u184 u185 u186 u187 u188 u189 u190 u191 u192 u193 u194 u195 u196 u197 u198 u199 u200 u201 u202 u203 u204 u205 u206 : Value} (ih : IH12 n) (h : WS X w ws n t sa allowed a4 n4 d4 a5 n5 d5 a6 n6 d6 a7 n7 d7 a8 n8 d8 a9 n9 d9 a10 n10 d10) (hg : ∀ t' ∈ FNode.tables t, Good n t' false allowed) (hba : ∀ b ∈ FNode.bases t, has allowed b = true) (hbk : has (FNode.keys t) k_base = decide (0 < (FNode.bases t).length)) (htg : ∀ g ∈ FNode.together t, 2 ≤ g.length) (hct : ∀ c ∈ FNode.counts t, (has (FNode.keys t) c.1 = true ∨ has (FNode.optional t) c.1 = true) ∧ c.2.1.toList.isEmpty = false ∧ 0 ≤ c.2.2) :
    Code.wp Try.prog (dropSeq 14 (Try.f12.body.getD .skip)) (bodyPost Try.prog Try.f12 (PostW w)) ⟨#[u0, u1, sa, .pointer (some ⟨w.heap.size, 0, none⟩), u4, u5, u6, u7, u8, u9, .slice a10 n10 d10, u11, u12, u13, u14, u15, u16, u17, .slice a4 n4 d4, .slice a5 n5 d5, u20, u21, u22, u23, u24, u25, u26, u27, u28, u29, u30, u31, u32, u33, u34, u35, u36, u37, u38, u39, u40, u41, u42, u43, u44, u45, u46, u47, u48, u49, u50, u51, u52, u53, u54, u55, u56, u57, u58, u59, u60, u61, u62, u63, u64, u65, u66, u67, u68, u69, u70, u71, u72, u73, u74, u75, u76, u77, u78, u79, u80, u81, u82, u83, u84, u85, u86, u87, u88, u89, u90, u91, u92, u93, u94, u95, u96, u97, u98, u99, u100, u101, u102, u103, u104, u105, u106, u107, u108, u109, u110, u111, u112, u113, u114, u115, u116, u117, u118, u119, u120, u121, u122, u123, u124, u125, u126, u127, u128, u129, u130, u131, u132, u133, u134, u135, u136, u137, u138, u139, u140, u141, u142, u143, u144, u145, u146, u147, u148, u149, u150, u151, u152, u153, u154, u155, u156, u157, u158, u159, u160, u161, u162, u163, u164, u165, u166, u167, u168, u169, u170, u171, u172, u173, u174, u175, u176, u177, u178, u179, u180, u181, u182, u183, u184, u185, u186, u187, u188, u189, u190, u191, u192, u193, u194, u195, u196, u197, u198, u199, u200, u201, u202, u203, u204, u205, u206], []⟩ ws := by
  obtain ⟨hn8, hmax⟩ := counts_len h.cnt
  have hmax' := hmax
  unfold maxLen at hmax
  have HW : Hid (WS X w ws n t sa allowed a4 n4 d4 a5 n5 d5 a6 n6 d6 a7 n7 d7 a8 n8 d8 a9 n9 d9 a10 n10 d10) := h
  have HG : Hid (∀ t' ∈ FNode.tables t, Good n t' false allowed) := hg
  have HBA : Hid (∀ b ∈ FNode.bases t, has allowed b = true) := hba
  have HIH : Hid (IH12 n) := ih
  have HBK : Hid (has (FNode.keys t) k_base = decide (0 < (FNode.bases t).length)) := hbk
  have HTG : Hid (∀ g ∈ FNode.together t, 2 ≤ g.length) := htg
  have HCT : Hid (∀ c ∈ FNode.counts t, (has (FNode.keys t) c.1 = true ∨ has (FNode.optional t) c.1 = true) ∧ c.2.1.toList.isEmpty = false ∧ 0 ≤ c.2.2) := hct
  clear h hg ih hba hbk htg hct
  subst hn8
  obtain ⟨C, hC⟩ : ∃ C, C = dropSeq 15 (Try.f12.body.getD .skip) := ⟨_, rfl⟩
  have e : dropSeq 14 (Try.f12.body.getD .skip) = replTail 1 (dropSeq 14 (Try.f12.body.getD .skip)) C := by subst hC; rfl
  rw [e]
  have HC : Hid (C = dropSeq 15 (Try.f12.body.getD .skip)) := hC
  clear hC e
  conv => arg 2; whnf
  simp only [replTail]
  go_wp2
  go_loopw [20, 21] (fun i _ wq => ∃ k : Nat, k ≤ (FNode.counts t).length ∧ i = .int .i64 k ∧ WS X w wq n t sa allowed a4 n4 d4 a5 n5 d5 a6 n6 d6 a7 n7 d7 a8 (FNode.counts t).length d8 a9 n9 d9 a10 n10 d10) (fun i _ _ => (FNode.counts t).length - (intOf i).toNat)
  case atStart => exact ⟨0, Nat.zero_le _, rfl, HW.out⟩
  case round =>
    obtain ⟨k, hk, rfl, hws⟩ := hrel
    have HWS : Hid (WS X w wr n t sa allowed a4 n4 d4 a5 n5 d5 a6 n6 d6 a7 n7 d7 a8 (FNode.counts t).length d8 a9 n9 d9 a10 n10 d10) := hws
    obtain ⟨bl0, bc0, bf0⟩ := hws.box
    by_cases hlt : k < (FNode.counts t).length
    · obtain ⟨g, e, hgl, hc0, hc1, hc2⟩ := counts_at hws.cnt hlt
      subst e
      clear hws
      have HC0 : Hid (wr.cell? ⟨g, k * 3, none⟩ = some (.string (FNode.counts t)[k].1)) := hc0
      have HC1 : Hid (wr.cell? ⟨g, k * 3 + 1, none⟩ = some (.string (FNode.counts t)[k].2.1)) := hc1
      have HC2 : Hid (wr.cell? ⟨g, k * 3 + 2, none⟩ = some (.int .i64 (FNode.counts t)[k].2.2)) := hc2
      clear hc0 hc1 hc2
      obtain ⟨hor, hne, hnn⟩ := HCT.out _ (List.getElem_mem hlt)
      go_wp2_with fail
      refine (get21 _ _ _ _ _ _ _ _ _ _ (some ⟨g, 0, none⟩) _ _ wr).mono ?_
      rintro e w1 ⟨rfl, hb1⟩
      have B1 : Hid (Below wr.heap.size wr w1) := hb1
      have S1' := HWS.out.grow hb1
      obtain ⟨bl1, bc1, bf1⟩ := S1'.box
      have HS1 : Hid (WS X w w1 n t sa allowed a4 n4 d4 a5 n5 d5 a6 n6 d6 a7 n7 d7 (some ⟨g, 0, none⟩) (FNode.counts t).length d8 a9 n9 d9 a10 n10 d10) := S1'
      clear bc0 bf0 bl0 hb1 S1'
      go_wp2_with fail
      refine (get23 _ _ _ _ _ _ _ _ _ _ g _ _ k (.string (FNode.counts t)[k].1) w1 hlt hmax' (Nat.lt_of_lt_of_le hgl B1.out.size) (cell_up B1.out hgl HC0.out)).mono ?_
      rintro e w2 ⟨rfl, hb2⟩
      have B2 : Hid (Below wr.heap.size wr w2) := B1.out.trans (hb2.mono B1.out.size)
      have S2' := HS1.out.grow hb2
      obtain ⟨bl2, bc2, bf2⟩ := S2'.box
      have HS2 : Hid (WS X w w2 n t sa allowed a4 n4 d4 a5 n5 d5 a6 n6 d6 a7 n7 d7 (some ⟨g, 0, none⟩) (FNode.counts t).length d8 a9 n9 d9 a10 n10 d10) := S2'
      clear bc1 bf1 bl1 hb2 S2'
      go_wp2_with fail
      refine (has39 _ HS2.out.keys).mono ?_
      rintro e w3 ⟨rfl, rfl⟩
      have fin : ∀ (u : Value), True := fun _ => trivial
      by_cases hk1 : has (FNode.keys t) (FNode.counts t)[k].1 = true
      · rw [hk1]
        go_wp2_with fail
        refine (get24 _ _ _ _ _ _ _ _ _ _ g _ _ k (.string (FNode.counts t)[k].2.1) w3 hlt hmax' (Nat.lt_of_lt_of_le hgl B2.out.size) (cell_up B2.out hgl HC1.out)).mono ?_
        rintro e w4 ⟨rfl, hb4⟩
        have B4 : Hid (Below wr.heap.size wr w4) := B2.out.trans (hb4.mono B2.out.size)
        have S4' := HS2.out.grow hb4
        obtain ⟨bl4, bc4, bf4⟩ := S4'.box
        have HS4 : Hid (WS X w w4 n t sa allowed a4 n4 d4 a5 n5 d5 a6 n6 d6 a7 n7 d7 (some ⟨g, 0, none⟩) (FNode.counts t).length d8 a9 n9 d9 a10 n10 d10) := S4'
        clear bc2 bf2 bl2 hb4 S4'
        go_wp2_with fail
        refine (get25 _ _ _ _ _ _ _ _ _ _ g _ _ k (.int .i64 (FNode.counts t)[k].2.2) w4 hlt hmax' (Nat.lt_of_lt_of_le hgl B4.out.size) (cell_up B4.out hgl HC2.out)).mono ?_
        rintro e w5 ⟨rfl, hb5⟩
        have HS5 := hide (HS4.out.grow hb5)
        clear hb5 bc4 bf4 bl4
        go_wp2
        go_roundw
        case rel => exact ⟨k + 1, by omega, by go_num, unhide HS5⟩
        case measure => simp [intOf]; omega
      · have hk1' : has (FNode.keys t) (FNode.counts t)[k].1 = false := by simpa using hk1
        have hk2 : has (FNode.optional t) (FNode.counts t)[k].1 = true := hor.resolve_left hk1
        rw [hk1']
        go_wp2_with fail
        refine (has39 _ HS2.out.opt).mono ?_
        rintro e w3' ⟨rfl, rfl⟩
        rw [hk2]
        go_wp2_with fail
        refine (get24 _ _ _ _ _ _ _ _ _ _ g _ _ k (.string (FNode.counts t)[k].2.1) w3' hlt hmax' (Nat.lt_of_lt_of_le hgl B2.out.size) (cell_up B2.out hgl HC1.out)).mono ?_
        rintro e w4 ⟨rfl, hb4⟩
        have B4 : Hid (Below wr.heap.size wr w4) := B2.out.trans (hb4.mono B2.out.size)
        have S4' := HS2.out.grow hb4
        obtain ⟨bl4, bc4, bf4⟩ := S4'.box
        have HS4 : Hid (WS X w w4 n t sa allowed a4 n4 d4 a5 n5 d5 a6 n6 d6 a7 n7 d7 (some ⟨g, 0, none⟩) (FNode.counts t).length d8 a9 n9 d9 a10 n10 d10) := S4'
        clear bc2 bf2 bl2 hb4 S4'
        go_wp2_with fail
        refine (get25 _ _ _ _ _ _ _ _ _ _ g _ _ k (.int .i64 (FNode.counts t)[k].2.2) w4 hlt hmax' (Nat.lt_of_lt_of_le hgl B4.out.size) (cell_up B4.out hgl HC2.out)).mono ?_
        rintro e w5 ⟨rfl, hb5⟩
        have HS5 := hide (HS4.out.grow hb5)
        clear hb5 bc4 bf4 bl4
        go_wp2
        go_roundw
        case rel => exact ⟨k + 1, by omega, by go_num, unhide HS5⟩
        case measure => simp [intOf]; omega
    · clear hws
      go_wp2_with fail
      refine (get21 _ _ _ _ _ _ _ _ _ _ a8 _ _ wr).mono ?_
      rintro e w1 ⟨rfl, hb1⟩
      have HS1 := hide (HWS.out.grow hb1)
      clear hb1 bc0 bf0 bl0
      go_wp2
      rw [HC.out]
      exact w15 HIH.out (unhide HS1) HG.out HBA.out HBK.out HTG.out

set_option maxRecDepth 100000 in
set_option maxHeartbeats 2000000 in
theorem w12 {X : List Nat} {w ws : World} {n : Nat} {t : FTree (n + 1)} {sa : Value} {allowed : List ByteArray} {a4 a5 a6 a7 a8 a9 a10 : Option Addr} {n4 d4 n5 d5 n6 d6 n7 d7 n8 d8 n9 d9 n10 d10 : Nat} {u0 u1 u4 u5 u6 u7 u8 u9 u11 u12 u13 u14 u15 u16 u17 u18 u19 u20 u21 u22 u23 u24 u25 u26 u27 u28 u29 u30 u31 u32 u33 u34 u35 u36 u37 u38 u39 u40 u41 u42 u43 u44 u45 u46 u47 u48 u49 u50 u51 u52 u53 u54 u55 u56 u57 u58 u59 u60 u61 u62 u63 u64 u65 u66 u67 u68 u69 u70 u71 u72 u73 u74 u75 u76 u77 u78 u79 u80 u81 u82 u83 u84 u85 u86 u87 u88 u89 u90 u91 u92 u93 u94 u95 u96 u97 u98 u99 u100 u101 u102 u103 u104 u105 u106 u107 u108 u109 u110 u111 u112 u113 u114 u115 u116 u117 u118 u119 u120 u121 u122 u123 u124 u125 u126 u127 u128 u129 u130 u131 u132 u133 u134 u135 u136 u137 u138 u139 u140 u141 u142 u143 u144 u145 u146 u147 u148 u149 u150 u151 u152 u153 u154 u155 u156 u157 u158 u159 u160 u161 u162 u163 u164 u165 u166 u167 u168 u169 u170 u171 u172 u173 u174 u175 u176 u177 u178 u179 u180 u181 u182 u183 u184 u185 u186 u187 u188 u189 u190 u191 u192 u193 u194 u195 u196 u197 u198 u199 u200 u201 u202 u203 u204 u205 u206 : Value} (ih : IH12 n) (h : WS X w ws n t sa allowed a4 n4 d4 a5 n5 d5 a6 n6 d6 a7 n7 d7 a8 n8 d8 a9 n9 d9 a10 n10 d10) (hg : ∀ t' ∈ FNode.tables t, Good n t' false allowed) (hba : ∀ b ∈ FNode.bases t, has allowed b = true) (hbk : has (FNode.keys t) k_base = decide (0 < (FNode.bases t).length)) (htg : ∀ g ∈ FNode.together t, 2 ≤ g.length) (hct : ∀ c ∈ FNode.counts t, (has (FNode.keys t) c.1 = true ∨ has (FNode.optional t) c.1 = true) ∧ c.2.1.toList.isEmpty = false ∧ 0 ≤ c.2.2) :
    Code.wp Try.prog (dropSeq 12 (Try.f12.body.getD .skip)) (bodyPost Try.prog Try.f12 (PostW w)) ⟨#[u0, u1, sa, .pointer (some ⟨w.heap.size, 0, none⟩), u4, u5, u6, u7, u8, u9, .slice a10 n10 d10, u11, u12, u13, u14, u15, u16, u17, u18, u19, u20, u21, u22, u23, u24, u25, u26, u27, u28, u29, u30, u31, u32, u33, u34, u35, u36, u37, u38, u39, u40, u41, u42, u43, u44, u45, u46, u47, u48, u49, u50, u51, u52, u53, u54, u55, u56, u57, u58, u59, u60, u61, u62, u63, u64, u65, u66, u67, u68, u69, u70, u71, u72, u73, u74, u75, u76, u77, u78, u79, u80, u81, u82, u83, u84, u85, u86, u87, u88, u89, u90, u91, u92, u93, u94, u95, u96, u97, u98, u99, u100, u101, u102, u103, u104, u105, u106, u107, u108, u109, u110, u111, u112, u113, u114, u115, u116, u117, u118, u119, u120, u121, u122, u123, u124, u125, u126, u127, u128, u129, u130, u131, u132, u133, u134, u135, u136, u137, u138, u139, u140, u141, u142, u143, u144, u145, u146, u147, u148, u149, u150, u151, u152, u153, u154, u155, u156, u157, u158, u159, u160, u161, u162, u163, u164, u165, u166, u167, u168, u169, u170, u171, u172, u173, u174, u175, u176, u177, u178, u179, u180, u181, u182, u183, u184, u185, u186, u187, u188, u189, u190, u191, u192, u193, u194, u195, u196, u197, u198, u199, u200, u201, u202, u203, u204, u205, u206], []⟩ ws := by
  have HW : Hid (WS X w ws n t sa allowed a4 n4 d4 a5 n5 d5 a6 n6 d6 a7 n7 d7 a8 n8 d8 a9 n9 d9 a10 n10 d10) := h
  have HG : Hid (∀ t' ∈ FNode.tables t, Good n t' false allowed) := hg
  have HBA : Hid (∀ b ∈ FNode.bases t, has allowed b = true) := hba
  have HIH : Hid (IH12 n) := ih
  have HBK : Hid (has (FNode.keys t) k_base = decide (0 < (FNode.bases t).length)) := hbk
  have HTG : Hid (∀ g ∈ FNode.together t, 2 ≤ g.length) := htg
  have HCT : Hid (∀ c ∈ FNode.counts t, (has (FNode.keys t) c.1 = true ∨ has (FNode.optional t) c.1 = true) ∧ c.2.1.toList.isEmpty = false ∧ 0 ≤ c.2.2) := hct
  obtain ⟨bl0, bc0, bf0⟩ := h.box
  clear h hg ih hba hbk htg hct
  obtain ⟨C, hC⟩ : ∃ C, C = dropSeq 14 (Try.f12.body.getD .skip) := ⟨_, rfl⟩
  have e : dropSeq 12 (Try.f12.body.getD .skip) = replTail 2 (dropSeq 12 (Try.f12.body.getD .skip)) C := by subst hC; rfl
  rw [e]
  have HC : Hid (C = dropSeq 14 (Try.f12.body.getD .skip)) := hC
  clear hC e
  conv => arg 2; whnf
  simp only [replTail]
  go_wp2_with fail
  refine (get34 _ _ _ _ _ _ _ _ _ _ _ ws).mono ?_
  rintro e w1 ⟨rfl, hb1⟩
  have S1' := HW.out.grow hb1
  obtain ⟨bl1, bc1, bf1⟩ := S1'.box
  have HS1 := hide S1'
  clear bc0 bf0 bl0 hb1 S1'
  go_wp2_with fail
  refine (get35 _ _ _ _ _ _ _ _ _ _ _ w1).mono ?_
  rintro e w2 ⟨rfl, hb2⟩
  have HS2 := hide ((unhide HS1).grow hb2)
  clear bc1 bf1 bl1 hb2
  go_wp2
  rw [HC.out]
  exact w14 HIH.out (unhide HS2) HG.out HBA.out HBK.out HTG.out HCT.out
end Go.Proofs.Qxb6601023a
