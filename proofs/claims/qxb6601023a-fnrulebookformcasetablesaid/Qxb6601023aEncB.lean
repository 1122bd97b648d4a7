/-
  OWN WORK. zzEncForm_b1: the loops over tables and bases.
-/
import Derived.Test.Qxb6601023aEncA
namespace Go.Proofs.Qxb6601023a
open Go Go.RowKit Go.Flow
set_option linter.unusedVariables false
set_option linter.unusedSimpArgs false

def IH8 (n : Nat) : Prop := ∀ (t : FTree n) (X : List Nat) (w : World) (v : Value), FormIs X n w v t → Fit n t → (enc n t).size < 2 ^ 62 → Calls Try.prog 8 #[v] w (PostE w (enc n t))

set_option maxRecDepth 100000 in
set_option maxHeartbeats 2000000 in
theorem e6 {X : List Nat} {w ws : World} {n : Nat} {t : FTree (n + 1)} {a4 a5 a6 a7 a8 a9 a10 : Option Addr} {n4 d4 n5 d5 n6 d6 n7 d7 n8 d8 n9 d9 n10 d10 : Nat} {s3 s5 : Value} {lc lb : List ByteArray} {u0 u2 u4 u6 u8 u9 u10 u11 u12 u13 u14 u15 u16 u17 u18 u19 u20 u21 u22 u23 u24 u25 u26 u27 u28 u29 u30 u31 u32 u33 u34 u35 u36 u37 u38 u39 u40 u41 u42 u43 u44 u45 u46 u47 u48 u49 u50 u51 u52 u53 u54 u55 u56 u57 u58 u59 u60 u61 u62 u63 u64 u65 u66 u67 u68 u69 u70 u71 u72 u73 u74 u75 u76 : Value} (ih : IH8 n)
    (h : WS X w ws n t (.slice none 0 0) [] a4 n4 d4 a5 n5 d5 a6 n6 d6 a7 n7 d7 a8 n8 d8 a9 n9 d9 a10 n10 d10) (h3 : SR ws s3 lc) (h5 : SR ws s5 lb) (hF : Fit (n + 1) t) (hs : (nodeB (FNode.name t) (FNode.array t) (FNode.needed t) (FNode.left t) (FNode.keys t) (FNode.optional t) (FNode.together t) (FNode.oneOf t) lc lb ((FNode.tables t).map (enc n))).size < 2 ^ 62) :
    Code.wp Try.prog (dropSeq 6 (Try.f8.body.getD .skip)) (bodyPost Try.prog Try.f8 (PostE w (nodeB (FNode.name t) (FNode.array t) (FNode.needed t) (FNode.left t) (FNode.keys t) (FNode.optional t) (FNode.together t) (FNode.oneOf t) lc lb ((FNode.tables t).map (enc n))))) ⟨#[u0, .pointer (some ⟨w.heap.size, 0, none⟩), u2, s3, u4, s5, u6, .slice a10 n10 d10, u8, u9, u10, u11, u12, u13, u14, u15, u16, u17, u18, u19, u20, u21, u22, u23, u24, u25, u26, u27, u28, u29, u30, u31, u32, u33, u34, u35, u36, u37, u38, u39, u40, u41, u42, u43, u44, u45, u46, u47, u48, u49, u50, u51, u52, u53, u54, u55, u56, u57, u58, u59, u60, u61, u62, u63, u64, u65, u66, u67, u68, u69, u70, u71, u72, u73, u74, u75, u76], []⟩ ws := by
  obtain ⟨hn10, hmax⟩ := forms_len h.tab
  unfold maxLen at hmax
  subst hn10
  have hl := hF.1
  have hlt0 := hF.2.2.2.1
  have HFT := hide hF.2.2.2.2.2
  have HIH := hide ih
  have HW := hide h
  have H3 := hide h3
  have H5 := hide h5
  have HS := hide hs
  clear h h3 h5 hs hF ih
  obtain ⟨C, hC⟩ : ∃ C, C = dropSeq 8 (Try.f8.body.getD .skip) := ⟨_, rfl⟩
  have e : dropSeq 6 (Try.f8.body.getD .skip) = replTail 2 (dropSeq 6 (Try.f8.body.getD .skip)) C := by subst hC; rfl
  rw [e]
  have HC := hide hC
  clear hC e
  conv => arg 2; whnf
  simp only [replTail]

  go_wp2_with fail
  go_loopw [8, 9] (fun s i wr => ∃ k : Nat, k ≤ (FNode.tables t).length ∧ i = .int .i64 k ∧ Below ws.heap.size ws wr ∧ wr.ownsRow ws.heap.size 9 1 s (((FNode.tables t).map (enc n)).take k).length ((((FNode.tables t).map (enc n)).take k).map .string)) (fun _ i _ => (FNode.tables t).length - (intOf i).toNat)
  case atStart => exact ⟨0, Nat.zero_le _, rfl, Below.refl _ _, World.ownsRow_nil _ _ _ _⟩
  case round =>
    obtain ⟨k, hk, rfl, hbr, hsr⟩ := hrel
    have HBR := hide hbr
    have HSR := hide hsr
    by_cases hlt : k < (FNode.tables t).length
    · obtain ⟨g, e, -, hgl, c0, c1, c2, c3, c4, c5, c6, c7, c8, c9, c10, hf, k0, k1, k2, k3, k4, k5, k6, k7, k8, k9, k10⟩ := forms_at ((unhide HW).grow hbr).tab hlt
      subst e
      have HFF := hide hf
      have hkm : k < ((FNode.tables t).map (enc n)).length := by simpa using hlt
      have HTK := hide (List.take_succ_eq_append_getElem hkm)
      have hlen : (((FNode.tables t).map (enc n)).take k).length + 1 ≤ 1000000 := by simp only [List.length_take, List.length_map]; omega
      have hz : (enc n (FNode.tables t)[k]).size < 2 ^ 62 := by
        have h := encList_mem hkm
        have h2 := unhide HS
        rw [nodeB_size] at h2
        simp only [List.getElem_map] at h
        omega
      have hbs := hbr.size
      clear hbr hsr hf
      go_wp2_with fail
      refine ((unhide HIH) (FNode.tables t)[k] X wr _ (unhide HFF) ((unhide HFT) _ (List.getElem_mem hlt)) hz).mono ?_
      rintro e w2 ⟨rfl, hb2⟩
      have HB2 := hide ((unhide HBR).trans (hb2.mono (unhide HBR).size))
      have HSR2 := hide (ownsRow_below (unhide HSR) hb2)
      have hbs2 := (unhide HB2).size
      clear hb2 k0 k1 k2 k3 k4 k5 k6 k7 k8 k9 k10
      go_wp2_with (at_builtin; (refine wpl_append_one (v := u8) rfl _ _ rfl rfl rfl ws.heap.size (((FNode.tables t).map (enc n)).take k) (unhide HSR2) ?hB hlen ?hb ?hr; (case hB => rfl); (case hb => omega); intro v' w3 hown3 hgrow3))
      go_roundw
      case rel =>
        refine ⟨k + 1, by omega, by go_num, ((unhide HB2).alloc hbs2 _).grown hgrow3 (by simp; omega) (fun b hb => ((unhide HSR2).lt b hb).1), ?_⟩
        rw [unhide HTK]
        simp only [List.getElem_map]
        exact hown3
      case measure => simp [intOf]; omega
    · have hfin : ((FNode.tables t).map (enc n)).take k = ((FNode.tables t).map (enc n)) := List.take_of_length_le (by simp; omega)
      have hs2 := hsr
      rw [hfin] at hs2
      have HS2 : Hid (SR wr u8 ((FNode.tables t).map (enc n))) := ownsRow_zero hs2
      clear hsr hs2 hfin
      go_wp2_with fail
      rw [unhide HC]
      exact e8 ((unhide HW).grow (unhide HBR)) ((unhide H3).below (unhide HBR)) ((unhide H5).below (unhide HBR)) (unhide HS2) hl (unhide HS)

set_option maxRecDepth 100000 in
set_option maxHeartbeats 2000000 in
theorem e3 {X : List Nat} {w ws : World} {n : Nat} {t : FTree (n + 1)} {a4 a5 a6 a7 a8 a9 a10 : Option Addr} {n4 d4 n5 d5 n6 d6 n7 d7 n8 d8 n9 d9 n10 d10 : Nat} {s3 : Value} {lc : List ByteArray} {u0 u2 u4 u5 u6 u7 u8 u9 u10 u11 u12 u13 u14 u15 u16 u17 u18 u19 u20 u21 u22 u23 u24 u25 u26 u27 u28 u29 u30 u31 u32 u33 u34 u35 u36 u37 u38 u39 u40 u41 u42 u43 u44 u45 u46 u47 u48 u49 u50 u51 u52 u53 u54 u55 u56 u57 u58 u59 u60 u61 u62 u63 u64 u65 u66 u67 u68 u69 u70 u71 u72 u73 u74 u75 u76 : Value} (ih : IH8 n)
    (h : WS X w ws n t (.slice none 0 0) [] a4 n4 d4 a5 n5 d5 a6 n6 d6 a7 n7 d7 a8 n8 d8 a9 n9 d9 a10 n10 d10) (h3 : SR ws s3 lc) (hF : Fit (n + 1) t) (hs : (nodeB (FNode.name t) (FNode.array t) (FNode.needed t) (FNode.left t) (FNode.keys t) (FNode.optional t) (FNode.together t) (FNode.oneOf t) lc (FNode.bases t) ((FNode.tables t).map (enc n))).size < 2 ^ 62) :
    Code.wp Try.prog (dropSeq 3 (Try.f8.body.getD .skip)) (bodyPost Try.prog Try.f8 (PostE w (nodeB (FNode.name t) (FNode.array t) (FNode.needed t) (FNode.left t) (FNode.keys t) (FNode.optional t) (FNode.together t) (FNode.oneOf t) lc (FNode.bases t) ((FNode.tables t).map (enc n))))) ⟨#[u0, .pointer (some ⟨w.heap.size, 0, none⟩), u2, s3, u4, u5, u6, u7, u8, u9, u10, u11, u12, u13, u14, u15, u16, u17, u18, u19, u20, u21, u22, u23, u24, u25, u26, u27, u28, u29, u30, u31, u32, u33, u34, u35, u36, u37, u38, u39, u40, u41, u42, u43, u44, u45, u46, u47, u48, u49, u50, u51, u52, u53, u54, u55, u56, u57, u58, u59, u60, u61, u62, u63, u64, u65, u66, u67, u68, u69, u70, u71, u72, u73, u74, u75, u76], []⟩ ws := by
  obtain ⟨hn9, hmax⟩ := bases_len h.bas
  have hmax' := hmax
  unfold maxLen at hmax
  subst hn9
  have hlt0 := hF.2.2.1
  have HF := hide hF
  have HIH := hide ih
  have HW := hide h
  have H3 := hide h3
  have HS := hide hs
  clear h h3 hs hF ih
  obtain ⟨C, hC⟩ : ∃ C, C = dropSeq 6 (Try.f8.body.getD .skip) := ⟨_, rfl⟩
  have e : dropSeq 3 (Try.f8.body.getD .skip) = replTail 3 (dropSeq 3 (Try.f8.body.getD .skip)) C := by subst hC; rfl
  rw [e]
  have HC := hide hC
  clear hC e
  conv => arg 2; whnf
  simp only [replTail]

  go_wp2_with fail
  go_loopw [5, 6] (fun s i wr => ∃ k : Nat, k ≤ (FNode.bases t).length ∧ i = .int .i64 k ∧ Below ws.heap.size ws wr ∧ wr.ownsRow ws.heap.size 9 1 s ((FNode.bases t).take k).length (((FNode.bases t).take k).map .string)) (fun _ i _ => (FNode.bases t).length - (intOf i).toNat)
  case atStart => exact ⟨0, Nat.zero_le _, rfl, Below.refl _ _, World.ownsRow_nil _ _ _ _⟩
  case round =>
    obtain ⟨k, hk, rfl, hbr, hsr⟩ := hrel
    have HBR := hide hbr
    have HSR := hide hsr
    obtain ⟨bl0, bc0, bf0⟩ := ((unhide HW).grow hbr).box
    by_cases hlt : k < (FNode.bases t).length
    · obtain ⟨g, e, hgl, hcell⟩ := bases_at ((unhide HW).grow hbr).bas hlt
      subst e
      have HCE := hide hcell
      have HTK := hide (List.take_succ_eq_append_getElem hlt)
      have hlen : ((FNode.bases t).take k).length + 1 ≤ 1000000 := by simp only [List.length_take]; omega
      clear hbr hsr hcell
      go_wp2_with fail
      refine (get26 _ _ _ _ _ _ _ _ _ _ _ _ _ wr).mono ?_
      rintro e w2 ⟨rfl, hb2⟩
      have HB2 := hide ((unhide HBR).trans (hb2.mono (unhide HBR).size))
      have HSR2 := hide (ownsRow_below (unhide HSR) hb2)
      have hcell2 := cell_up hb2 hgl (unhide HCE)
      have hgl2 : g < w2.heap.size := Nat.lt_of_lt_of_le hgl hb2.size
      obtain ⟨bl2, bc2, bf2⟩ := ((unhide HW).grow (unhide HB2)).box
      clear hb2 bl0 bc0 bf0
      have HC2 := hide hcell2
      clear hcell2
      go_wp2_with fail
      refine (get27 _ _ _ _ _ _ _ _ _ _ g _ _ k (.string (FNode.bases t)[k]) w2 hlt hmax' hgl2 (unhide HC2)).mono ?_
      rintro e w4 ⟨rfl, hb4⟩
      have HB4 := hide ((unhide HB2).trans (hb4.mono (unhide HB2).size))
      have HSR4 := hide (ownsRow_below (unhide HSR2) hb4)
      have hbs4 := (unhide HB4).size
      clear hb4 bl2 bc2 bf2
      go_wp2_with (at_builtin; (refine wpl_append_one (v := u5) rfl _ _ rfl rfl rfl ws.heap.size ((FNode.bases t).take k) (unhide HSR4) ?hB hlen ?hb ?hr; (case hB => rfl); (case hb => omega); intro v' w3 hown3 hgrow3))
      go_roundw
      case rel =>
        refine ⟨k + 1, by omega, by go_num, ((unhide HB4).alloc hbs4 _).grown hgrow3 (by simp; omega) (fun b hb => ((unhide HSR4).lt b hb).1), ?_⟩
        rw [unhide HTK]
        exact hown3
      case measure => simp [intOf]; omega
    · have hfin : (FNode.bases t).take k = (FNode.bases t) := List.take_of_length_le (by omega)
      have hs2 := hsr
      rw [hfin] at hs2
      have HS2 : Hid (SR wr u5 (FNode.bases t)) := ownsRow_zero hs2
      clear hsr hs2 hfin hbr
      go_wp2_with fail
      refine (get26 _ _ _ _ _ _ _ _ _ _ _ _ _ wr).mono ?_
      rintro e w2 ⟨rfl, hb2⟩
      have HB2 := hide ((unhide HBR).trans (hb2.mono (unhide HBR).size))
      have HS3 := hide ((unhide HS2).below hb2)
      obtain ⟨bl2, bc2, bf2⟩ := ((unhide HW).grow (unhide HB2)).box
      clear hb2 bl0 bc0 bf0
      go_wp2_with fail
      refine (get28 _ _ _ _ _ _ _ _ _ _ _ w2).mono ?_
      rintro e w4 ⟨rfl, hb4⟩
      have HB4 := hide ((unhide HB2).trans (hb4.mono (unhide HB2).size))
      have HS4 := hide ((unhide HS3).below hb4)
      clear hb4 bl2 bc2 bf2
      go_wp2_with fail
      rw [unhide HC]
      exact e6 (unhide HIH) ((unhide HW).grow (unhide HB4)) ((unhide H3).below (unhide HB4)) (unhide HS4) (unhide HF) (unhide HS)
end Go.Proofs.Qxb6601023a
