/-
  OWN WORK. zzWellFormed_b1 (12): its contract.
-/
import Derived.Test.Qxb6601023aWellD
namespace Go.Proofs.Qxb6601023a
open Go.RowKit Go.Flow
set_option linter.unusedVariables false
set_option linter.unusedSimpArgs false

set_option maxRecDepth 100000 in
set_option maxHeartbeats 2000000 in
theorem well_top (n : Nat) (ih : IH12 n) (t : FTree (n + 1)) (X : List Nat) (w : World) (v : Value) (allowed : List ByteArray) (sa : Value) (hf : FormIs X (n + 1) w v t) (hG : Good (n + 1) t true allowed) (hsa : Strs X w sa allowed) :
    Calls Try.prog 12 #[v, .bool true, sa] w (PostW w) := by
  obtain ⟨a4, n4, d4, a5, n5, d5, a6, n6, d6, a7, n7, d7, a8, n8, d8, a9, n9, d9, a10, n10, d10, rfl, i1, i2, i3, i4, i5, i6, i7⟩ := hf.open
  obtain ⟨⟨g1, g2, g3, g4⟩, gpos, gle, gdis, gone, gcnt, gtog, gbas, gal, gtab⟩ := hG
  have HE : Hid (WE X w n t sa allowed a4 n4 d4 a5 n5 d5 a6 n6 d6 a7 n7 d7 a8 n8 d8 a9 n9 d9 a10 n10 d10) := hide ⟨hsa, i1, i2, i3, i4, i5, i6, i7⟩
  have HR := hide (And.intro gpos (And.intro gle (And.intro gdis (And.intro gone (And.intro gcnt (And.intro gtog (And.intro gbas (And.intro gal gtab))))))))
  have HIH := hide ih
  clear ih hf hsa i1 i2 i3 i4 i5 i6 i7 gpos gle gdis gone gcnt gtog gbas gal gtab
  have HG4 := hide g4
  clear g4
  go_enter Try.func12, Try.ntmps12
  obtain ⟨C, hC⟩ : ∃ C, C = dropSeq 7 (Try.f12.body.getD .skip) := ⟨_, rfl⟩
  have e : (Try.f12.body.getD .skip) = replTail 7 (Try.f12.body.getD .skip) C := by subst hC; rfl
  change Code.wp Try.prog (Try.f12.body.getD .skip) _ _ _
  rw [e]
  have HC : Hid (C = dropSeq 7 (Try.f12.body.getD .skip)) := hC
  clear hC e
  conv => arg 2; whnf
  simp only [replTail]
  go_wp2_with fail
  obtain ⟨w00, hw00⟩ : ∃ w00, w00 = w.alloc (.cells #[.string (FNode.name t), .bool (FNode.array t), .string (FNode.needed t), .string (FNode.left t), .slice a4 n4 d4, .slice a5 n5 d5, .slice a6 n6 d6, .slice a7 n7 d7, .slice a8 n8 d8, .slice a9 n9 d9, .slice a10 n10 d10] 30) := ⟨_, rfl⟩
  have hv0 : VarB w00 w.heap.size #[.string (FNode.name t), .bool (FNode.array t), .string (FNode.needed t), .string (FNode.left t), .slice a4 n4 d4, .slice a5 n5 d5, .slice a6 n6 d6, .slice a7 n7 d7, .slice a8 n8 d8, .slice a9 n9 d9, .slice a10 n10 d10] := by subst hw00; exact VarB.new _ _ rfl
  have HBL0 : Hid (Below w.heap.size w w00) := by subst hw00; exact hide ((Below.refl _ _).alloc (Nat.le_refl _) _)
  rw [← hw00]
  clear hw00
  have HV0 := hide hv0
  obtain ⟨bl0, bc0, bf0⟩ := hv0
  refine (get30 _ _ _ _ _ _ _ _ _ _ _  w00).mono ?_
  rintro e w1 ⟨rfl, hb1⟩
  have HBL1 := hide ((unhide HBL0).trans (hb1.mono (unhide HBL0).size))
  have hv1 := (unhide HV0).below hb1
  have HV1 := hide hv1
  obtain ⟨bl1, bc1, bf1⟩ := hv1
  clear hb1 bl0 bc0 bf0
  go_wp2_with fail
  refine (get33 _ _ _ _ _ _ _ _ _ _ _  w1).mono ?_
  rintro e w2 ⟨rfl, hb2⟩
  have HBL2 := hide ((unhide HBL1).trans (hb2.mono (unhide HBL1).size))
  have hv2 := (unhide HV1).below hb2
  have HV2 := hide hv2
  obtain ⟨bl2, bc2, bf2⟩ := hv2
  clear hb2 bl1 bc1 bf1
  go_wp2_with fail
  refine (get32 _ _ _ _ _ _ _ _ _ _ _  w2).mono ?_
  rintro e w3 ⟨rfl, hb3⟩
  have HBL3 := hide ((unhide HBL2).trans (hb3.mono (unhide HBL2).size))
  have hv3 := (unhide HV2).below hb3
  have HV3 := hide hv3
  obtain ⟨bl3, bc3, bf3⟩ := hv3
  clear hb3 bl2 bc2 bf2
  go_wp2_with fail
  refine (get31 _ _ _ _ _ _ _ _ _ _ _  w3).mono ?_
  rintro e w4 ⟨rfl, hb4⟩
  have HBL4 := hide ((unhide HBL3).trans (hb4.mono (unhide HBL3).size))
  have hv4 := (unhide HV3).below hb4
  have HV4 := hide hv4
  obtain ⟨bl4, bc4, bf4⟩ := hv4
  clear hb4 bl3 bc3 bf3
  rw [unhide HG4]
  go_wp2_with fail
  refine (names17 ((unhide HE).keys.keep (Keep.of_below (unhide HBL4))) ((unhide HE).opt.keep (Keep.of_below (unhide HBL4))) ((unhide HE).tog.keep (Keep.of_below (unhide HBL4))) (by have := (unhide HR).2.1; unfold allOf at this; simp only [List.length_append] at this; omega)).mono ?_
  rintro e wn ⟨sn, rfl, hsn, hbn⟩
  have HBLn := hide ((unhide HBL4).trans (hbn.mono (unhide HBL4).size))
  have hvn := (unhide HV4).below hbn
  have HVn := hide hvn
  obtain ⟨bln, bcn, bfn⟩ := hvn
  have HSN := hide (ownsRow_zero hsn)
  have hform : ∃ an nn dn, sn = .slice an nn dn := by
    rcases hsn.2 with ⟨h1, -⟩ | ⟨g, cap, cur, h1, -⟩
    · exact ⟨_, _, _, h1⟩
    · exact ⟨_, _, _, h1⟩
  obtain ⟨an, nn, dn, hsn'⟩ := hform
  subst hsn'
  clear hbn hsn bl4 bc4 bf4
  go_wp2_with fail
  refine (get28 _ _ _ _ _ _ _ _ _ _ _  wn).mono ?_
  rintro e wt ⟨rfl, hbt⟩
  have HBLt := hide ((unhide HBLn).trans (hbt.mono (unhide HBLn).size))
  have HVt := hide ((unhide HVn).below hbt)
  have HST := hide (ownsRow_below (unhide HSN) hbt)
  clear hbt bln bcn bfn
  go_wp2
  rw [HC.out]
  obtain ⟨gpos, gle, gdis, gone, gcnt, gtog, gbas, gal, gtab⟩ := unhide HR
  exact w7 (unhide HIH) (unhide HE) (unhide HBLt) (unhide HVt) (unhide HST) gtab gal gbas gtog gcnt gone gpos gle gdis

set_option maxRecDepth 100000 in
set_option maxHeartbeats 2000000 in
theorem well_sub_norule (n : Nat) (ih : IH12 n) (t : FTree (n + 1)) (X : List Nat) (w : World) (v : Value) (allowed : List ByteArray) (sa : Value) (hf : FormIs X (n + 1) w v t) (hG : Good (n + 1) t false allowed) (hsa : Strs X w sa allowed) (hl : (FNode.left t).toList = [110, 111, 45, 114, 117, 108, 101]) :
    Calls Try.prog 12 #[v, .bool false, sa] w (PostW w) := by
  obtain ⟨a4, n4, d4, a5, n5, d5, a6, n6, d6, a7, n7, d7, a8, n8, d8, a9, n9, d9, a10, n10, d10, rfl, i1, i2, i3, i4, i5, i6, i7⟩ := hf.open
  obtain ⟨⟨g1, g2⟩, gpos, gle, gdis, gone, gcnt, gtog, gbas, gal, gtab⟩ := hG
  have HE : Hid (WE X w n t sa allowed a4 n4 d4 a5 n5 d5 a6 n6 d6 a7 n7 d7 a8 n8 d8 a9 n9 d9 a10 n10 d10) := hide ⟨hsa, i1, i2, i3, i4, i5, i6, i7⟩
  have HR := hide (And.intro gpos (And.intro gle (And.intro gdis (And.intro gone (And.intro gcnt (And.intro gtog (And.intro gbas (And.intro gal gtab))))))))
  have HIH := hide ih
  clear ih hf hsa i1 i2 i3 i4 i5 i6 i7 gpos gle gdis gone gcnt gtog gbas gal gtab
  clear g2
  go_enter Try.func12, Try.ntmps12
  obtain ⟨C, hC⟩ : ∃ C, C = dropSeq 7 (Try.f12.body.getD .skip) := ⟨_, rfl⟩
  have e : (Try.f12.body.getD .skip) = replTail 7 (Try.f12.body.getD .skip) C := by subst hC; rfl
  change Code.wp Try.prog (Try.f12.body.getD .skip) _ _ _
  rw [e]
  have HC : Hid (C = dropSeq 7 (Try.f12.body.getD .skip)) := hC
  clear hC e
  conv => arg 2; whnf
  simp only [replTail]
  go_wp2_with fail
  obtain ⟨w00, hw00⟩ : ∃ w00, w00 = w.alloc (.cells #[.string (FNode.name t), .bool (FNode.array t), .string (FNode.needed t), .string (FNode.left t), .slice a4 n4 d4, .slice a5 n5 d5, .slice a6 n6 d6, .slice a7 n7 d7, .slice a8 n8 d8, .slice a9 n9 d9, .slice a10 n10 d10] 30) := ⟨_, rfl⟩
  have hv0 : VarB w00 w.heap.size #[.string (FNode.name t), .bool (FNode.array t), .string (FNode.needed t), .string (FNode.left t), .slice a4 n4 d4, .slice a5 n5 d5, .slice a6 n6 d6, .slice a7 n7 d7, .slice a8 n8 d8, .slice a9 n9 d9, .slice a10 n10 d10] := by subst hw00; exact VarB.new _ _ rfl
  have HBL0 : Hid (Below w.heap.size w w00) := by subst hw00; exact hide ((Below.refl _ _).alloc (Nat.le_refl _) _)
  rw [← hw00]
  clear hw00
  have HV0 := hide hv0
  obtain ⟨bl0, bc0, bf0⟩ := hv0
  refine (get30 _ _ _ _ _ _ _ _ _ _ _  w00).mono ?_
  rintro e w1 ⟨rfl, hb1⟩
  have HBL1 := hide ((unhide HBL0).trans (hb1.mono (unhide HBL0).size))
  have hv1 := (unhide HV0).below hb1
  have HV1 := hide hv1
  obtain ⟨bl1, bc1, bf1⟩ := hv1
  clear hb1 bl0 bc0 bf0
  go_wp2_with fail
  refine (get33 _ _ _ _ _ _ _ _ _ _ _  w1).mono ?_
  rintro e w2 ⟨rfl, hb2⟩
  have HBL2 := hide ((unhide HBL1).trans (hb2.mono (unhide HBL1).size))
  have hv2 := (unhide HV1).below hb2
  have HV2 := hide hv2
  obtain ⟨bl2, bc2, bf2⟩ := hv2
  clear hb2 bl1 bc1 bf1
  go_wp2_with fail
  refine (names17 ((unhide HE).keys.keep (Keep.of_below (unhide HBL2))) ((unhide HE).opt.keep (Keep.of_below (unhide HBL2))) ((unhide HE).tog.keep (Keep.of_below (unhide HBL2))) (by have := (unhide HR).2.1; unfold allOf at this; simp only [List.length_append] at this; omega)).mono ?_
  rintro e wn ⟨sn, rfl, hsn, hbn⟩
  have HBLn := hide ((unhide HBL2).trans (hbn.mono (unhide HBL2).size))
  have hvn := (unhide HV2).below hbn
  have HVn := hide hvn
  obtain ⟨bln, bcn, bfn⟩ := hvn
  have HSN := hide (ownsRow_zero hsn)
  have hform : ∃ an nn dn, sn = .slice an nn dn := by
    rcases hsn.2 with ⟨h1, -⟩ | ⟨g, cap, cur, h1, -⟩
    · exact ⟨_, _, _, h1⟩
    · exact ⟨_, _, _, h1⟩
  obtain ⟨an, nn, dn, hsn'⟩ := hform
  subst hsn'
  clear hbn hsn bl2 bc2 bf2
  go_wp2_with fail
  refine (get28 _ _ _ _ _ _ _ _ _ _ _  wn).mono ?_
  rintro e wt ⟨rfl, hbt⟩
  have HBLt := hide ((unhide HBLn).trans (hbt.mono (unhide HBLn).size))
  have HVt := hide ((unhide HVn).below hbt)
  have HST := hide (ownsRow_below (unhide HSN) hbt)
  clear hbt bln bcn bfn
  go_wp2
  rw [HC.out]
  obtain ⟨gpos, gle, gdis, gone, gcnt, gtog, gbas, gal, gtab⟩ := unhide HR
  exact w7 (unhide HIH) (unhide HE) (unhide HBLt) (unhide HVt) (unhide HST) gtab gal gbas gtog gcnt gone gpos gle gdis

set_option maxRecDepth 100000 in
set_option maxHeartbeats 2000000 in
theorem well_sub_refuse (n : Nat) (ih : IH12 n) (t : FTree (n + 1)) (X : List Nat) (w : World) (v : Value) (allowed : List ByteArray) (sa : Value) (hf : FormIs X (n + 1) w v t) (hG : Good (n + 1) t false allowed) (hsa : Strs X w sa allowed) (hl : (FNode.left t).toList = [114, 101, 102, 117, 115, 101]) :
    Calls Try.prog 12 #[v, .bool false, sa] w (PostW w) := by
  obtain ⟨a4, n4, d4, a5, n5, d5, a6, n6, d6, a7, n7, d7, a8, n8, d8, a9, n9, d9, a10, n10, d10, rfl, i1, i2, i3, i4, i5, i6, i7⟩ := hf.open
  obtain ⟨⟨g1, g2⟩, gpos, gle, gdis, gone, gcnt, gtog, gbas, gal, gtab⟩ := hG
  have HE : Hid (WE X w n t sa allowed a4 n4 d4 a5 n5 d5 a6 n6 d6 a7 n7 d7 a8 n8 d8 a9 n9 d9 a10 n10 d10) := hide ⟨hsa, i1, i2, i3, i4, i5, i6, i7⟩
  have HR := hide (And.intro gpos (And.intro gle (And.intro gdis (And.intro gone (And.intro gcnt (And.intro gtog (And.intro gbas (And.intro gal gtab))))))))
  have HIH := hide ih
  clear ih hf hsa i1 i2 i3 i4 i5 i6 i7 gpos gle gdis gone gcnt gtog gbas gal gtab
  clear g2
  go_enter Try.func12, Try.ntmps12
  obtain ⟨C, hC⟩ : ∃ C, C = dropSeq 7 (Try.f12.body.getD .skip) := ⟨_, rfl⟩
  have e : (Try.f12.body.getD .skip) = replTail 7 (Try.f12.body.getD .skip) C := by subst hC; rfl
  change Code.wp Try.prog (Try.f12.body.getD .skip) _ _ _
  rw [e]
  have HC : Hid (C = dropSeq 7 (Try.f12.body.getD .skip)) := hC
  clear hC e
  conv => arg 2; whnf
  simp only [replTail]
  go_wp2_with fail
  obtain ⟨w00, hw00⟩ : ∃ w00, w00 = w.alloc (.cells #[.string (FNode.name t), .bool (FNode.array t), .string (FNode.needed t), .string (FNode.left t), .slice a4 n4 d4, .slice a5 n5 d5, .slice a6 n6 d6, .slice a7 n7 d7, .slice a8 n8 d8, .slice a9 n9 d9, .slice a10 n10 d10] 30) := ⟨_, rfl⟩
  have hv0 : VarB w00 w.heap.size #[.string (FNode.name t), .bool (FNode.array t), .string (FNode.needed t), .string (FNode.left t), .slice a4 n4 d4, .slice a5 n5 d5, .slice a6 n6 d6, .slice a7 n7 d7, .slice a8 n8 d8, .slice a9 n9 d9, .slice a10 n10 d10] := by subst hw00; exact VarB.new _ _ rfl
  have HBL0 : Hid (Below w.heap.size w w00) := by subst hw00; exact hide ((Below.refl _ _).alloc (Nat.le_refl _) _)
  rw [← hw00]
  clear hw00
  have HV0 := hide hv0
  obtain ⟨bl0, bc0, bf0⟩ := hv0
  refine (get30 _ _ _ _ _ _ _ _ _ _ _  w00).mono ?_
  rintro e w1 ⟨rfl, hb1⟩
  have HBL1 := hide ((unhide HBL0).trans (hb1.mono (unhide HBL0).size))
  have hv1 := (unhide HV0).below hb1
  have HV1 := hide hv1
  obtain ⟨bl1, bc1, bf1⟩ := hv1
  clear hb1 bl0 bc0 bf0
  go_wp2_with fail
  refine (get33 _ _ _ _ _ _ _ _ _ _ _  w1).mono ?_
  rintro e w2 ⟨rfl, hb2⟩
  have HBL2 := hide ((unhide HBL1).trans (hb2.mono (unhide HBL1).size))
  have hv2 := (unhide HV1).below hb2
  have HV2 := hide hv2
  obtain ⟨bl2, bc2, bf2⟩ := hv2
  clear hb2 bl1 bc1 bf1
  go_wp2_with fail
  refine (names17 ((unhide HE).keys.keep (Keep.of_below (unhide HBL2))) ((unhide HE).opt.keep (Keep.of_below (unhide HBL2))) ((unhide HE).tog.keep (Keep.of_below (unhide HBL2))) (by have := (unhide HR).2.1; unfold allOf at this; simp only [List.length_append] at this; omega)).mono ?_
  rintro e wn ⟨sn, rfl, hsn, hbn⟩
  have HBLn := hide ((unhide HBL2).trans (hbn.mono (unhide HBL2).size))
  have hvn := (unhide HV2).below hbn
  have HVn := hide hvn
  obtain ⟨bln, bcn, bfn⟩ := hvn
  have HSN := hide (ownsRow_zero hsn)
  have hform : ∃ an nn dn, sn = .slice an nn dn := by
    rcases hsn.2 with ⟨h1, -⟩ | ⟨g, cap, cur, h1, -⟩
    · exact ⟨_, _, _, h1⟩
    · exact ⟨_, _, _, h1⟩
  obtain ⟨an, nn, dn, hsn'⟩ := hform
  subst hsn'
  clear hbn hsn bl2 bc2 bf2
  go_wp2_with fail
  refine (get28 _ _ _ _ _ _ _ _ _ _ _  wn).mono ?_
  rintro e wt ⟨rfl, hbt⟩
  have HBLt := hide ((unhide HBLn).trans (hbt.mono (unhide HBLn).size))
  have HVt := hide ((unhide HVn).below hbt)
  have HST := hide (ownsRow_below (unhide HSN) hbt)
  clear hbt bln bcn bfn
  go_wp2
  rw [HC.out]
  obtain ⟨gpos, gle, gdis, gone, gcnt, gtog, gbas, gal, gtab⟩ := unhide HR
  exact w7 (unhide HIH) (unhide HE) (unhide HBLt) (unhide HVt) (unhide HST) gtab gal gbas gtog gcnt gone gpos gle gdis

theorem well12 : ∀ n, IH12 n
  | 0, t, _, _, _, _, _, _, _, _, _ => nomatch t
  | n + 1, t, X, w, v, top, allowed, sa, hf, hG, hsa => by
    cases top with
    | true => exact well_top n (well12 n) t X w v allowed sa hf hG hsa
    | false =>
      rcases hG.1.2 with h | h
      · refine well_sub_norule n (well12 n) t X w v allowed sa hf hG hsa ?_
        have h1 := beq_iff_eq.1 h
        rw [h1, ByteArray.toList_eq]
      · refine well_sub_refuse n (well12 n) t X w v allowed sa hf hG hsa ?_
        have h1 := beq_iff_eq.1 h
        rw [h1, ByteArray.toList_eq]
end Go.Proofs.Qxb6601023a
