/-
  OWN WORK. zzWellFormed_b1 (12): the list of all names is gathered; the whole walk.
-/
import Derived.Test.Qxb6601023aWellC
namespace Go.Proofs.Qxb6601023a
open Go.RowKit Go.Flow
set_option linter.unusedVariables false
set_option linter.unusedSimpArgs false

/-- What holds when the call begins. -/
structure WE (X : List Nat) (w : World) (n : Nat) (t : FTree (n + 1)) (sa : Value) (allowed : List ByteArray) (a4 : Option Addr) (n4 d4 : Nat) (a5 : Option Addr) (n5 d5 : Nat) (a6 : Option Addr) (n6 d6 : Nat) (a7 : Option Addr) (n7 d7 : Nat) (a8 : Option Addr) (n8 d8 : Nat) (a9 : Option Addr) (n9 d9 : Nat) (a10 : Option Addr) (n10 d10 : Nat) : Prop where
  al : Strs X w sa allowed
  keys : Strs X w (.slice a4 n4 d4) (FNode.keys t)
  opt : Strs X w (.slice a5 n5 d5) (FNode.optional t)
  tog : Groups X w (.slice a6 n6 d6) (FNode.together t)
  one : Strs X w (.slice a7 n7 d7) (FNode.oneOf t)
  cnt : Counts X w (.slice a8 n8 d8) (FNode.counts t)
  bas : Bases X w (.slice a9 n9 d9) (FNode.bases t)
  tab : Forms (FormIs X n w) X w (.slice a10 n10 d10) (FNode.tables t)

theorem WE.ws {X : List Nat} {w wr : World} {n : Nat} {t : FTree (n + 1)} {sa : Value} {allowed : List ByteArray} {a4 a5 a6 a7 a8 a9 a10 : Option Addr} {n4 d4 n5 d5 n6 d6 n7 d7 n8 d8 n9 d9 n10 d10 : Nat} (h : WE X w n t sa allowed a4 n4 d4 a5 n5 d5 a6 n6 d6 a7 n7 d7 a8 n8 d8 a9 n9 d9 a10 n10 d10) (hb : Below w.heap.size w wr) (hx : VarB wr w.heap.size #[.string (FNode.name t), .bool (FNode.array t), .string (FNode.needed t), .string (FNode.left t), .slice a4 n4 d4, .slice a5 n5 d5, .slice a6 n6 d6, .slice a7 n7 d7, .slice a8 n8 d8, .slice a9 n9 d9, .slice a10 n10 d10]) : WS X w wr n t sa allowed a4 n4 d4 a5 n5 d5 a6 n6 d6 a7 n7 d7 a8 n8 d8 a9 n9 d9 a10 n10 d10 :=
  have k : Keep X w wr := Keep.of_below hb
  ⟨hb, hx, h.al.keep k, h.keys.keep k, h.opt.keep k, h.tog.keep k, h.one.keep k, h.cnt.keep k, h.bas.keep k, h.tab.keep k fun _ _ h => h.keep k⟩

/-- append of one string. -/
theorem wpl_append_one {W : World} {x : ByteArray} {ops : Array Oper} {rest : List Oper} {o : Oper} {a : Act} {Q : Exit → Act → World → Prop} (hgd : o.guard = none) (s y : Operand)
    (ho : o.op = .call { callee := .builtin .append, args := #[s, y], argTypes := #[24, 24] }) {B : Nat} (hy : a.eval y = .slice (some ⟨B, 0, none⟩) 1 1) {v : Value} (hs : a.eval s = v)
    (base : Nat) (l : List ByteArray) (hown : W.ownsRow base 9 1 v l.length (l.map .string)) (hB : W.heap.size = B) (hl : l.length + 1 ≤ 1000000) (hbase : base ≤ W.heap.size)
    (h : ∀ v' w', w'.ownsRow base 9 1 v' (l ++ [x]).length ((l ++ [x]).map .string) → (W.alloc (.cells #[.string x] 9)).grownBy w' v.ownBlock → wpList Try.prog ops Q rest (a.put o.dst v') w') :
    wpList Try.prog ops Q (o :: rest) a (W.alloc (.cells #[.string x] 9)) := by
  refine wpl_append_strs hgd s y ho base v l.length (l.map .string) hs (ownsRow_below hown ((Below.refl _ _).alloc (Nat.le_refl _) _)) 0 (.slice (some ⟨B, 0, none⟩) 1 1) 1 [.string x] hy (ownsRow_block (blk_top _ _ hB) (by decide) rfl rfl) (one_strs [x]) hl (by simp; omega) ?_
  intro v' w' h1 h2 h3
  exact h v' w' (by simpa using h1) h2

set_option maxRecDepth 100000 in
set_option maxHeartbeats 2000000 in
theorem w8 {X : List Nat} {w ws : World} {n : Nat} {t : FTree (n + 1)} {sa : Value} {allowed : List ByteArray} {a4 a5 a6 a7 a8 a9 a10 : Option Addr} {n4 d4 n5 d5 n6 d6 n7 d7 n8 d8 n9 d9 n10 d10 : Nat} {u0 u1 u4 u5 u6 u7 u8 u9 u12 u13 u14 u15 u16 u17 u18 u19 u20 u21 u22 u23 u24 u25 u26 u27 u28 u29 u30 u31 u32 u33 u34 u35 u36 u37 u38 u39 u40 u41 u42 u43 u44 u45 u46 u47 u48 u49 u50 u51 u52 u53 u54 u55 u56 u57 u58 u59 u60 u61 u62 u63 u64 u65 u66 u67 u68 u69 u70 u71 u72 u73 u74 u75 u76 u77 u78 u79 u80 u81 u82 u83 u84 u85 u86 u87 u88 u89 u90 u91 u92 u93 u94 u95 u96 u97 u98 u99 u100 u101 u102 u103 u104 u105 u106 u107 u108 u109 u110 u111 u112 u113 u114 u115 u116 u117 u118 u119 u120 u121 u122 u123 u124 u125 u126 u127 u128 u129 u130 u131 u132 u133 u134 u135 u136 u137 u138 u139 u140 u141 u142 u143 u144 u145 u146 u147 u148 u149 u150 u151 u152 u153 u154 u155 u156 u157 u158 u159 u160 u161 u162 u163 u164 u165 u166 u167 u168 u169 u170 u171 u172 u173 u174 u175 u176 u177 u178 u179 u180 u181 u182 u183 u184 u185 u186 u187 u188 u189 u190 u191 u192 u193 u194 u195 u196 u197 u198 u199 u200 u201 u202 u203 u204 u205 u206 : Value} {s : Value} {B : Nat} (ih : IH12 n) (he : WE X w n t sa allowed a4 n4 d4 a5 n5 d5 a6 n6 d6 a7 n7 d7 a8 n8 d8 a9 n9 d9 a10 n10 d10) (hbel : Below w.heap.size w ws) (hbox : VarB ws w.heap.size #[.string (FNode.name t), .bool (FNode.array t), .string (FNode.needed t), .string (FNode.left t), .slice a4 n4 d4, .slice a5 n5 d5, .slice a6 n6 d6, .slice a7 n7 d7, .slice a8 n8 d8, .slice a9 n9 d9, .slice a10 n10 d10]) (hB : w.heap.size < B) (hBs : B ≤ ws.heap.size) (hs : ws.ownsRow B 9 1 s (namesL (FNode.keys t) (FNode.optional t) (FNode.together t)).length ((namesL (FNode.keys t) (FNode.optional t) (FNode.together t)).map .string)) (hg : ∀ t' ∈ FNode.tables t, Good n t' false allowed) (hba : ∀ b ∈ FNode.bases t, has allowed b = true) (hbk : has (FNode.keys t) k_base = decide (0 < (FNode.bases t).length)) (htg : ∀ g ∈ FNode.together t, 2 ≤ g.length) (hct : ∀ c ∈ FNode.counts t, (has (FNode.keys t) c.1 = true ∨ has (FNode.optional t) c.1 = true) ∧ c.2.1.toList.isEmpty = false ∧ 0 ≤ c.2.2) (hone : ∀ x ∈ FNode.oneOf t, has (allOf t) x = true) (hpos : 0 < (allOf t).length) (hle : (allOf t).length ≤ 1000) (hdis : ∀ i (hi : i < (allOf t).length), (allOf t)[i].toList.isEmpty = false ∧ ∀ j (hj : j < (allOf t).length), i < j → ((allOf t)[i].toList == (allOf t)[j].toList) = false) :
    Code.wp Try.prog (dropSeq 8 (Try.f12.body.getD .skip)) (bodyPost Try.prog Try.f12 (PostW w)) ⟨#[u0, u1, sa, .pointer (some ⟨w.heap.size, 0, none⟩), u4, u5, u6, u7, u8, u9, .slice a10 n10 d10, s, u12, u13, u14, u15, u16, u17, u18, u19, u20, u21, u22, u23, u24, u25, u26, u27, u28, u29, u30, u31, u32, u33, u34, u35, u36, u37, u38, u39, u40, u41, u42, u43, u44, u45, u46, u47, u48, u49, u50, u51, u52, u53, u54, u55, u56, u57, u58, u59, u60, u61, u62, u63, u64, u65, u66, u67, u68, u69, u70, u71, u72, u73, u74, u75, u76, u77, u78, u79, u80, u81, u82, u83, u84, u85, u86, u87, u88, u89, u90, u91, u92, u93, u94, u95, u96, u97, u98, u99, u100, u101, u102, u103, u104, u105, u106, u107, u108, u109, u110, u111, u112, u113, u114, u115, u116, u117, u118, u119, u120, u121, u122, u123, u124, u125, u126, u127, u128, u129, u130, u131, u132, u133, u134, u135, u136, u137, u138, u139, u140, u141, u142, u143, u144, u145, u146, u147, u148, u149, u150, u151, u152, u153, u154, u155, u156, u157, u158, u159, u160, u161, u162, u163, u164, u165, u166, u167, u168, u169, u170, u171, u172, u173, u174, u175, u176, u177, u178, u179, u180, u181, u182, u183, u184, u185, u186, u187, u188, u189, u190, u191, u192, u193, u194, u195, u196, u197, u198, u199, u200, u201, u202, u203, u204, u205, u206], []⟩ ws := by
  obtain ⟨hn10, hmax⟩ := forms_len he.tab
  unfold maxLen at hmax
  have HE := hide he
  have HBEL := hide hbel
  have HBOX := hide hbox
  have HSS := hide hs
  have HG : Hid (∀ t' ∈ FNode.tables t, Good n t' false allowed) := hg
  have HBA : Hid (∀ b ∈ FNode.bases t, has allowed b = true) := hba
  have HIH : Hid (IH12 n) := ih
  have HBK : Hid (has (FNode.keys t) k_base = decide (0 < (FNode.bases t).length)) := hbk
  have HTG : Hid (∀ g ∈ FNode.together t, 2 ≤ g.length) := htg
  have HCT : Hid (∀ c ∈ FNode.counts t, (has (FNode.keys t) c.1 = true ∨ has (FNode.optional t) c.1 = true) ∧ c.2.1.toList.isEmpty = false ∧ 0 ≤ c.2.2) := hct
  have HON : Hid (∀ x ∈ FNode.oneOf t, has (allOf t) x = true) := hone
  have HDI : Hid (∀ i (hi : i < (allOf t).length), (allOf t)[i].toList.isEmpty = false ∧ ∀ j (hj : j < (allOf t).length), i < j → ((allOf t)[i].toList == (allOf t)[j].toList) = false) := hdis
  clear he hbel hbox hs hg ih hba hbk htg hct hone hdis
  subst hn10
  obtain ⟨C, hC⟩ : ∃ C, C = dropSeq 9 (Try.f12.body.getD .skip) := ⟨_, rfl⟩
  have e : dropSeq 8 (Try.f12.body.getD .skip) = replTail 1 (dropSeq 8 (Try.f12.body.getD .skip)) C := by subst hC; rfl
  rw [e]
  have HC : Hid (C = dropSeq 9 (Try.f12.body.getD .skip)) := hC
  clear hC e
  conv => arg 2; whnf
  simp only [replTail]
  go_wp2
  go_loopw [11, 13] (fun s i wq => ∃ k : Nat, k ≤ (FNode.tables t).length ∧ i = .int .i64 k ∧ Below w.heap.size w wq ∧ (VarB wq w.heap.size #[.string (FNode.name t), .bool (FNode.array t), .string (FNode.needed t), .string (FNode.left t), .slice a4 n4 d4, .slice a5 n5 d5, .slice a6 n6 d6, .slice a7 n7 d7, .slice a8 n8 d8, .slice a9 n9 d9, .slice a10 (FNode.tables t).length d10]) ∧ B ≤ wq.heap.size ∧ wq.ownsRow B 9 1 s ((namesL (FNode.keys t) (FNode.optional t) (FNode.together t)) ++ ((FNode.tables t).map (nameOf n)).take k).length (((namesL (FNode.keys t) (FNode.optional t) (FNode.together t)) ++ ((FNode.tables t).map (nameOf n)).take k).map .string)) (fun _ i _ => (FNode.tables t).length - (intOf i).toNat)
  case atStart => exact ⟨0, Nat.zero_le _, rfl, unhide HBEL, unhide HBOX, hBs, by simpa using unhide HSS⟩
  case round =>
    obtain ⟨k, hk, rfl, hbq, hxq, hBq, hsq⟩ := hrel
    have HBQ := hide hbq
    have HXQ := hide hxq
    have HSQ := hide hsq
    by_cases hlt : k < (FNode.tables t).length
    · have hws := (unhide HE).ws hbq hxq
      obtain ⟨g, e, -, hgl, c0, c1, c2, c3, c4, c5, c6, c7, c8, c9, c10, hf, k0, k1, k2, k3, k4, k5, k6, k7, k8, k9, k10⟩ := forms_at hws.tab hlt
      subst e
      have hnm : c0 = .string (nameOf n (FNode.tables t)[k]) := by
        cases n with
        | zero => exact nomatch (FNode.tables t)[k]
        | succ m =>
          obtain ⟨_, _, _, _, _, _, _, hv, -⟩ := hf
          cases hv
          rfl
      subst hnm
      clear hws hf hbq hxq hsq
      go_wp2_with fail
      refine (get30 _ _ _ _ _ _ _ _ _ _ _ wr).mono ?_
      rintro e w1 ⟨rfl, hb1⟩
      have HB1 := hide hb1
      have hs1 : wr.heap.size ≤ w1.heap.size := hb1.size
      have HS1 := hide (ownsRow_below (unhide HSQ) hb1)
      clear hb1
      have htk : ((FNode.tables t).map (nameOf n)).take (k + 1) = ((FNode.tables t).map (nameOf n)).take k ++ [nameOf n (FNode.tables t)[k]] := by
        rw [List.take_succ_eq_append_getElem (by simpa using hlt)]
        simp
      have hlen : ((namesL (FNode.keys t) (FNode.optional t) (FNode.together t)) ++ ((FNode.tables t).map (nameOf n)).take k).length + 1 ≤ 1000000 := by
        have h1 : ((namesL (FNode.keys t) (FNode.optional t) (FNode.together t)) ++ ((FNode.tables t).map (nameOf n)).take k).length ≤ (allOf t).length := by
          unfold allOf
          simp only [List.length_append, List.length_take, List.length_map]
          omega
        omega
      have HTK := hide htk
      clear htk
      go_wp2_with (at_builtin; (refine wpl_append_one (v := u11) rfl _ _ rfl rfl rfl B ((namesL (FNode.keys t) (FNode.optional t) (FNode.together t)) ++ ((FNode.tables t).map (nameOf n)).take k) (unhide HS1) ?hB hlen ?hb ?hr; (case hB => rfl); (case hb => omega); intro v' w3 hown3 hgrow3))
      go_roundw
      case rel =>
        have hne : ∀ b, u11.ownBlock = some b → B ≤ b := fun b hb => ((unhide HS1).lt b hb).1
        have hb0 : Below w.heap.size w (w1.alloc (.cells #[.string (nameOf n (FNode.tables t)[k])] 9)) := (((unhide HBQ).trans ((unhide HB1).mono (unhide HBQ).size))).alloc (Nat.le_trans (unhide HBQ).size hs1) _
        refine ⟨k + 1, by omega, by go_num, hb0.grown hgrow3 hb0.size (fun b hb => by have := hne b hb; omega), ?_, ?_, ?_⟩
        · have hx := ((unhide HXQ).below (unhide HB1)).alloc (.cells #[.string (nameOf n (FNode.tables t)[k])] 9)
          cases hbo : u11.ownBlock with
          | none => rw [hbo] at hgrow3; exact hx.below (below_of_grown_none hgrow3)
          | some b =>
            rw [hbo] at hgrow3
            have := hne b hbo
            exact hx.keep (Keep.grown hgrow3) (by simp; omega)
        · have := hgrow3.size
          simp at this
          omega
        · rw [unhide HTK, ← List.append_assoc]
          exact hown3
      case measure => simp [intOf]; omega
    · clear hbq hxq hsq
      have hfin : ((namesL (FNode.keys t) (FNode.optional t) (FNode.together t)) ++ ((FNode.tables t).map (nameOf n)).take k) = allOf t := by
        unfold allOf
        rw [List.take_of_length_le (by simp; omega)]
      have hst : Strs [] wr u11 (allOf t) := by
        have h1 := unhide HSQ
        rw [hfin] at h1
        exact ⟨ownsRow_zero h1, (by simp), fun h0 => absurd h0 (by omega)⟩
      obtain ⟨aa, da, e, -⟩ := Own.form hst
      subst e
      have HST := hide hst
      clear hst
      go_wp2
      rw [HC.out]
      exact w9 HIH.out ((unhide HE).ws (unhide HBQ) (unhide HXQ)) HG.out HBA.out HBK.out HTG.out HCT.out HON.out (unhide HST) hpos HDI.out

set_option maxRecDepth 100000 in
set_option maxHeartbeats 2000000 in
theorem w7 {X : List Nat} {w ws : World} {n : Nat} {t : FTree (n + 1)} {sa : Value} {allowed : List ByteArray} {a4 a5 a6 a7 a8 a9 a10 : Option Addr} {n4 d4 n5 d5 n6 d6 n7 d7 n8 d8 n9 d9 n10 d10 : Nat} {u0 u1 u4 u5 u6 u7 u8 u12 u13 u14 u15 u16 u17 u18 u19 u20 u21 u22 u23 u24 u25 u26 u27 u28 u29 u30 u31 u32 u33 u34 u35 u36 u37 u38 u39 u40 u41 u42 u43 u44 u45 u46 u47 u48 u49 u50 u51 u52 u53 u54 u55 u56 u57 u58 u59 u60 u61 u62 u63 u64 u65 u66 u67 u68 u69 u70 u71 u72 u73 u74 u75 u76 u77 u78 u79 u80 u81 u82 u83 u84 u85 u86 u87 u88 u89 u90 u91 u92 u93 u94 u95 u96 u97 u98 u99 u100 u101 u102 u103 u104 u105 u106 u107 u108 u109 u110 u111 u112 u113 u114 u115 u116 u117 u118 u119 u120 u121 u122 u123 u124 u125 u126 u127 u128 u129 u130 u131 u132 u133 u134 u135 u136 u137 u138 u139 u140 u141 u142 u143 u144 u145 u146 u147 u148 u149 u150 u151 u152 u153 u154 u155 u156 u157 u158 u159 u160 u161 u162 u163 u164 u165 u166 u167 u168 u169 u170 u171 u172 u173 u174 u175 u176 u177 u178 u179 u180 u181 u182 u183 u184 u185 u186 u187 u188 u189 u190 u191 u192 u193 u194 u195 u196 u197 u198 u199 u200 u201 u202 u203 u204 u205 u206 : Value} {an : Option Addr} {nn dn : Nat} (ih : IH12 n) (he : WE X w n t sa allowed a4 n4 d4 a5 n5 d5 a6 n6 d6 a7 n7 d7 a8 n8 d8 a9 n9 d9 a10 n10 d10) (hbel : Below w.heap.size w ws) (hbox : VarB ws w.heap.size #[.string (FNode.name t), .bool (FNode.array t), .string (FNode.needed t), .string (FNode.left t), .slice a4 n4 d4, .slice a5 n5 d5, .slice a6 n6 d6, .slice a7 n7 d7, .slice a8 n8 d8, .slice a9 n9 d9, .slice a10 n10 d10]) (hs : ws.ownsRow 0 9 1 (.slice an nn dn) (namesL (FNode.keys t) (FNode.optional t) (FNode.together t)).length ((namesL (FNode.keys t) (FNode.optional t) (FNode.together t)).map .string)) (hg : ∀ t' ∈ FNode.tables t, Good n t' false allowed) (hba : ∀ b ∈ FNode.bases t, has allowed b = true) (hbk : has (FNode.keys t) k_base = decide (0 < (FNode.bases t).length)) (htg : ∀ g ∈ FNode.together t, 2 ≤ g.length) (hct : ∀ c ∈ FNode.counts t, (has (FNode.keys t) c.1 = true ∨ has (FNode.optional t) c.1 = true) ∧ c.2.1.toList.isEmpty = false ∧ 0 ≤ c.2.2) (hone : ∀ x ∈ FNode.oneOf t, has (allOf t) x = true) (hpos : 0 < (allOf t).length) (hle : (allOf t).length ≤ 1000) (hdis : ∀ i (hi : i < (allOf t).length), (allOf t)[i].toList.isEmpty = false ∧ ∀ j (hj : j < (allOf t).length), i < j → ((allOf t)[i].toList == (allOf t)[j].toList) = false) :
    Code.wp Try.prog (dropSeq 7 (Try.f12.body.getD .skip)) (bodyPost Try.prog Try.f12 (PostW w)) ⟨#[u0, u1, sa, .pointer (some ⟨w.heap.size, 0, none⟩), u4, u5, u6, u7, u8, .slice an nn dn, .slice a10 n10 d10, .slice none 0 0, u12, u13, u14, u15, u16, u17, u18, u19, u20, u21, u22, u23, u24, u25, u26, u27, u28, u29, u30, u31, u32, u33, u34, u35, u36, u37, u38, u39, u40, u41, u42, u43, u44, u45, u46, u47, u48, u49, u50, u51, u52, u53, u54, u55, u56, u57, u58, u59, u60, u61, u62, u63, u64, u65, u66, u67, u68, u69, u70, u71, u72, u73, u74, u75, u76, u77, u78, u79, u80, u81, u82, u83, u84, u85, u86, u87, u88, u89, u90, u91, u92, u93, u94, u95, u96, u97, u98, u99, u100, u101, u102, u103, u104, u105, u106, u107, u108, u109, u110, u111, u112, u113, u114, u115, u116, u117, u118, u119, u120, u121, u122, u123, u124, u125, u126, u127, u128, u129, u130, u131, u132, u133, u134, u135, u136, u137, u138, u139, u140, u141, u142, u143, u144, u145, u146, u147, u148, u149, u150, u151, u152, u153, u154, u155, u156, u157, u158, u159, u160, u161, u162, u163, u164, u165, u166, u167, u168, u169, u170, u171, u172, u173, u174, u175, u176, u177, u178, u179, u180, u181, u182, u183, u184, u185, u186, u187, u188, u189, u190, u191, u192, u193, u194, u195, u196, u197, u198, u199, u200, u201, u202, u203, u204, u205, u206], []⟩ ws := by
  have hnn : nn = (namesL (FNode.keys t) (FNode.optional t) (FNode.together t)).length := by
    rcases hs.2 with ⟨h1, h2⟩ | ⟨g, cap, cur, h1, -⟩
    · cases h1; exact h2.symm
    · cases h1; rfl
  have hmax : (namesL (FNode.keys t) (FNode.optional t) (FNode.together t)).length ≤ 1000 := by unfold allOf at hle; simp only [List.length_append] at hle; omega
  have hcell : ∀ k (hk : k < (namesL (FNode.keys t) (FNode.optional t) (FNode.together t)).length), ∃ g, an = some ⟨g, 0, none⟩ ∧ g < ws.heap.size ∧ ws.cell? ⟨g, k, none⟩ = some (.string (namesL (FNode.keys t) (FNode.optional t) (FNode.together t))[k]) := by
    intro k hk
    obtain ⟨g, cap, e, -, hg⟩ := World.ownsRow.form hs (by omega)
    cases e
    exact ⟨g, rfl, hg, by rw [World.ownsRow.cellAt (hnn ▸ hs) k (by omega), List.getElem?_map, List.getElem?_eq_getElem hk]; rfl⟩
  have HE := hide he
  have HBEL := hide hbel
  have HBOX := hide hbox
  have HCE := hide hcell
  have HG : Hid (∀ t' ∈ FNode.tables t, Good n t' false allowed) := hg
  have HBA : Hid (∀ b ∈ FNode.bases t, has allowed b = true) := hba
  have HIH : Hid (IH12 n) := ih
  have HBK : Hid (has (FNode.keys t) k_base = decide (0 < (FNode.bases t).length)) := hbk
  have HTG : Hid (∀ g ∈ FNode.together t, 2 ≤ g.length) := htg
  have HCT : Hid (∀ c ∈ FNode.counts t, (has (FNode.keys t) c.1 = true ∨ has (FNode.optional t) c.1 = true) ∧ c.2.1.toList.isEmpty = false ∧ 0 ≤ c.2.2) := hct
  have HON : Hid (∀ x ∈ FNode.oneOf t, has (allOf t) x = true) := hone
  have HDI : Hid (∀ i (hi : i < (allOf t).length), (allOf t)[i].toList.isEmpty = false ∧ ∀ j (hj : j < (allOf t).length), i < j → ((allOf t)[i].toList == (allOf t)[j].toList) = false) := hdis
  have hlow : w.heap.size < ws.heap.size := hbox.1
  clear he hbel hbox hs hg ih hba hbk htg hct hone hdis hcell
  subst hnn
  obtain ⟨C, hC⟩ : ∃ C, C = dropSeq 8 (Try.f12.body.getD .skip) := ⟨_, rfl⟩
  have e : dropSeq 7 (Try.f12.body.getD .skip) = replTail 1 (dropSeq 7 (Try.f12.body.getD .skip)) C := by subst hC; rfl
  rw [e]
  have HC : Hid (C = dropSeq 8 (Try.f12.body.getD .skip)) := hC
  clear hC e
  conv => arg 2; whnf
  simp only [replTail]
  go_wp2
  go_loopw [11, 12] (fun s i wq => ∃ k : Nat, k ≤ (namesL (FNode.keys t) (FNode.optional t) (FNode.together t)).length ∧ i = .int .i64 k ∧ Below ws.heap.size ws wq ∧ wq.ownsRow ws.heap.size 9 1 s ((namesL (FNode.keys t) (FNode.optional t) (FNode.together t)).take k).length (((namesL (FNode.keys t) (FNode.optional t) (FNode.together t)).take k).map .string)) (fun _ i _ => (namesL (FNode.keys t) (FNode.optional t) (FNode.together t)).length - (intOf i).toNat)
  case atStart => exact ⟨0, Nat.zero_le _, rfl, Below.refl _ _, World.ownsRow_nil _ _ _ _⟩
  case round =>
    obtain ⟨k, hk, rfl, hbq, hsq⟩ := hrel
    have HBQ := hide hbq
    have HSQ := hide hsq
    by_cases hlt : k < (namesL (FNode.keys t) (FNode.optional t) (FNode.together t)).length
    · obtain ⟨g, e, hgl, hc⟩ := (unhide HCE) k hlt
      subst e
      have hck := cell_up hbq hgl hc
      have hgq : g < wr.heap.size := Nat.lt_of_lt_of_le hgl hbq.size
      have hbs := hbq.size
      clear hbq hsq hc
      have HTK := hide (List.take_succ_eq_append_getElem hlt)
      have hlen : ((namesL (FNode.keys t) (FNode.optional t) (FNode.together t)).take k).length + 1 ≤ 1000000 := by simp only [List.length_take]; omega
      go_wp2_with (at_builtin; (refine wpl_append_one (v := u11) rfl _ _ rfl rfl rfl ws.heap.size ((namesL (FNode.keys t) (FNode.optional t) (FNode.together t)).take k) (unhide HSQ) ?hB hlen ?hb ?hr; (case hB => rfl); (case hb => omega); intro v' w3 hown3 hgrow3))
      go_roundw
      case rel =>
        refine ⟨k + 1, by omega, by go_num, ((unhide HBQ).alloc hbs _).grown hgrow3 (by simp; omega) (fun b hb => ((unhide HSQ).lt b hb).1), ?_⟩
        rw [unhide HTK]
        exact hown3
      case measure => simp [intOf]; omega
    · have hfin : (namesL (FNode.keys t) (FNode.optional t) (FNode.together t)).take k = (namesL (FNode.keys t) (FNode.optional t) (FNode.together t)) := List.take_of_length_le (by omega)
      have hs2 := hsq
      rw [hfin] at hs2
      have HS2 := hide hs2
      have hbs := hbq.size
      clear hbq hsq hs2 hfin
      go_wp2
      rw [HC.out]
      exact w8 HIH.out (unhide HE) ((unhide HBEL).trans ((unhide HBQ).mono (unhide HBEL).size)) ((unhide HBOX).below (unhide HBQ)) hlow hbs (unhide HS2) HG.out HBA.out HBK.out HTG.out HCT.out HON.out hpos hle HDI.out
end Go.Proofs.Qxb6601023a
