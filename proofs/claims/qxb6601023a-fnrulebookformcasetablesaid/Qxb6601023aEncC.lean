/-
  OWN WORK. zzEncForm_b1: the loop over counts; the whole.
-/
import Derived.Test.Qxb6601023aEncB
namespace Go.Proofs.Qxb6601023a
open Go Go.RowKit Go.Flow
set_option linter.unusedVariables false
set_option linter.unusedSimpArgs false

def findReg (k : Nat) : Code → Option Code
  | .region i l b => if i = k then some (.region i l b) else none
  | .seq a b => (findReg k a).orElse fun _ => findReg k b
  | .cond _ a b => (findReg k a).orElse fun _ => findReg k b
  | .loop a => findReg k a
  | .block _ a => findReg k a
  | _ => none

def phi5 (A s3 : Value) (k : Nat) (c : ByteArray × ByteArray × Int) : Nat → Value → World → Prop
  | 0, v, _ => v = s3
  | 1, v, _ => v = A
  | 2, v, _ => v = .int .i64 k
  | 3, v, _ => v = .string c.1
  | 4, v, _ => v = A
  | 5, v, _ => v = .int .i64 k
  | 6, v, _ => v = .string c.2.1
  | 7, v, _ => v = A
  | 8, v, _ => v = .int .i64 k
  | 9, v, _ => v = .int .i64 ((c.2.2.toNat : Nat) : Int)
  | 10, v, _ => v = .string (countB c)
  | 11, v, w => SR w v [countB c]
  | _, _, _ => False
theorem phi5_keep {A s3 : Value} {k : Nat} {c : ByteArray × ByteArray × Int} (i : Nat) (v : Value) (w1 w2 : World) (hi : i < 12) (h : phi5 A s3 k c i v w1) (hb : Below w1.heap.size w1 w2) : phi5 A s3 k c i v w2 := by
  match i, h with
  | 0, h => exact h
  | 1, h => exact h
  | 2, h => exact h
  | 3, h => exact h
  | 4, h => exact h
  | 5, h => exact h
  | 6, h => exact h
  | 7, h => exact h
  | 8, h => exact h
  | 9, h => exact h
  | 10, h => exact h
  | 11, h => exact SR.below h hb

set_option maxRecDepth 100000 in
set_option maxHeartbeats 2000000 in
theorem r5 {X : List Nat} {w ws : World} {n : Nat} {t : FTree (n + 1)} {a4 a5 a6 a7 a8 a9 a10 : Option Addr} {n4 d4 n5 d5 n6 d6 n7 d7 n8 d8 n9 d9 n10 d10 : Nat} {W : World} {s3 : Value} {l : List ByteArray} {k : Nat} {u0 u2 u5 u6 u7 u8 u9 u10 u11 u12 u13 u14 u15 u16 u17 u18 u19 u20 u21 u22 u23 u24 u25 u26 u27 u28 u29 u30 u31 u32 u33 u34 u35 u36 u37 u38 u39 u40 u41 u42 u43 u44 u45 u46 u47 u48 u49 u50 u51 u52 u53 u54 u55 u56 u57 u58 u59 u60 u61 u62 u63 u64 u65 u66 u67 u68 u69 u70 u71 u72 u73 u74 u75 u76 : Value} {Qx : Exit → Act → World → Prop} {a0 : Act} (ha0 : a0 = ⟨#[u0, .pointer (some ⟨w.heap.size, 0, none⟩), u2, s3, .int .i64 k, u5, u6, u7, u8, u9, u10, u11, u12, u13, u14, u15, u16, u17, u18, u19, u20, u21, u22, u23, u24, u25, u26, u27, u28, u29, u30, u31, u32, u33, u34, u35, u36, u37, u38, u39, u40, u41, u42, u43, u44, u45, u46, u47, u48, u49, u50, u51, u52, u53, u54, u55, u56, u57, u58, u59, u60, u61, u62, u63, u64, u65, u66, u67, u68, u69, u70, u71, u72, u73, u74, u75, u76], []⟩)
    (h : WS X w ws n t (.slice none 0 0) [] a4 n4 d4 a5 n5 d5 a6 n6 d6 a7 n7 d7 a8 n8 d8 a9 n9 d9 a10 n10 d10) (h3 : ws.ownsRow W.heap.size 9 1 s3 l.length (l.map .string)) (hbW : Below W.heap.size W ws) (hk : k < (FNode.counts t).length) (hF : Fit (n + 1) t) (hs : ((countB (FNode.counts t)[k])).size < 2 ^ 62) (hlen : l.length + 1 ≤ 1000000)
    (hQ : ∀ (u16 u17 u18 u19 u20 u21 u22 u23 u24 u25 u26 u27 u28 s' : Value) (w' : World), w'.ownsRow W.heap.size 9 1 s' (l ++ [(countB (FNode.counts t)[k])]).length ((l ++ [(countB (FNode.counts t)[k])]).map .string) → Below W.heap.size W w' → Qx .normal ⟨#[u0, .pointer (some ⟨w.heap.size, 0, none⟩), u2, s', .int .i64 k, u5, u6, u7, u8, u9, u10, u11, u12, u13, u14, u15, u16, u17, u18, u19, u20, u21, u22, u23, u24, u25, u26, u27, u28, u29, u30, u31, u32, u33, u34, u35, u36, u37, u38, u39, u40, u41, u42, u43, u44, u45, u46, u47, u48, u49, u50, u51, u52, u53, u54, u55, u56, u57, u58, u59, u60, u61, u62, u63, u64, u65, u66, u67, u68, u69, u70, u71, u72, u73, u74, u75, u76], []⟩ w') :
    Code.wp Try.prog ((findReg 5 (Try.f8.body.getD .skip)).getD .skip) Qx a0 ws := by
  obtain ⟨hn8, hmax⟩ := counts_len h.cnt
  subst hn8
  obtain ⟨g8, e8', hg8, hc0, hc1, hc2⟩ := counts_at h.cnt hk
  subst e8'
  have hpos := (hF.2.2.2.2.1 _ (List.getElem_mem hk))
  have hint : ((FNode.counts t)[k].2.2) = ((((FNode.counts t)[k].2.2).toNat : Nat) : Int) := by omega
  conv => arg 2; whnf
  refine wp_region_flow2 12 [16, 17, 18, 19, 20, 21, 22, 23, 24, 25, 26, 27] (phi5 (.agg #[.string (FNode.name t), .bool (FNode.array t), .string (FNode.needed t), .string (FNode.left t), .slice a4 n4 d4, .slice a5 n5 d5, .slice a6 n6 d6, .slice a7 n7 d7, .slice (some ⟨g8, 0, none⟩) (FNode.counts t).length d8, .slice a9 n9 d9, .slice a10 n10 d10]) s3 k (FNode.counts t)[k]) (by kernel_rfl) (by kernel_rfl) phi5_keep ?hop ?hend
  case hop =>
    intro i o hi ho vals F w' hF' hb hd
    have g := h.grow hb
    have hs0 : a0.tmps.size = 77 := by subst ha0; rfl
    have ev1 : F.eval (.tmp 1) = .pointer (some ⟨w.heap.size, 0, none⟩) := by
      rw [hF', fill_out _ _ _ _ _ (by decide)]
      subst ha0
      rfl
    have ev3 : F.eval (.tmp 3) = s3 := by
      rw [hF', fill_out _ _ _ _ _ (by decide)]
      subst ha0
      rfl
    have ev4 : F.eval (.tmp 4) = .int .i64 k := by
      rw [hF', fill_out _ _ _ _ _ (by decide)]
      subst ha0
      rfl
    have ev16 : F.eval (.tmp 16) = vals 0 := (congrArg (fun f => Act.eval f (.tmp 16)) hF').trans ((fill_in _ 0 0 vals a0 16 (by decide) rfl (by rw [hs0]; decide)).trans (congrArg vals (Nat.zero_add _)))
    have ev17 : F.eval (.tmp 17) = vals 1 := (congrArg (fun f => Act.eval f (.tmp 17)) hF').trans ((fill_in _ 0 1 vals a0 17 (by decide) rfl (by rw [hs0]; decide)).trans (congrArg vals (Nat.zero_add _)))
    have ev18 : F.eval (.tmp 18) = vals 2 := (congrArg (fun f => Act.eval f (.tmp 18)) hF').trans ((fill_in _ 0 2 vals a0 18 (by decide) rfl (by rw [hs0]; decide)).trans (congrArg vals (Nat.zero_add _)))
    have ev19 : F.eval (.tmp 19) = vals 3 := (congrArg (fun f => Act.eval f (.tmp 19)) hF').trans ((fill_in _ 0 3 vals a0 19 (by decide) rfl (by rw [hs0]; decide)).trans (congrArg vals (Nat.zero_add _)))
    have ev20 : F.eval (.tmp 20) = vals 4 := (congrArg (fun f => Act.eval f (.tmp 20)) hF').trans ((fill_in _ 0 4 vals a0 20 (by decide) rfl (by rw [hs0]; decide)).trans (congrArg vals (Nat.zero_add _)))
    have ev21 : F.eval (.tmp 21) = vals 5 := (congrArg (fun f => Act.eval f (.tmp 21)) hF').trans ((fill_in _ 0 5 vals a0 21 (by decide) rfl (by rw [hs0]; decide)).trans (congrArg vals (Nat.zero_add _)))
    have ev22 : F.eval (.tmp 22) = vals 6 := (congrArg (fun f => Act.eval f (.tmp 22)) hF').trans ((fill_in _ 0 6 vals a0 22 (by decide) rfl (by rw [hs0]; decide)).trans (congrArg vals (Nat.zero_add _)))
    have ev23 : F.eval (.tmp 23) = vals 7 := (congrArg (fun f => Act.eval f (.tmp 23)) hF').trans ((fill_in _ 0 7 vals a0 23 (by decide) rfl (by rw [hs0]; decide)).trans (congrArg vals (Nat.zero_add _)))
    have ev24 : F.eval (.tmp 24) = vals 8 := (congrArg (fun f => Act.eval f (.tmp 24)) hF').trans ((fill_in _ 0 8 vals a0 24 (by decide) rfl (by rw [hs0]; decide)).trans (congrArg vals (Nat.zero_add _)))
    have ev25 : F.eval (.tmp 25) = vals 9 := (congrArg (fun f => Act.eval f (.tmp 25)) hF').trans ((fill_in _ 0 9 vals a0 25 (by decide) rfl (by rw [hs0]; decide)).trans (congrArg vals (Nat.zero_add _)))
    have ev26 : F.eval (.tmp 26) = vals 10 := (congrArg (fun f => Act.eval f (.tmp 26)) hF').trans ((fill_in _ 0 10 vals a0 26 (by decide) rfl (by rw [hs0]; decide)).trans (congrArg vals (Nat.zero_add _)))
    clear hF'
    clear hQ ha0
    have hi' : i = 0 ∨ i = 1 ∨ i = 2 ∨ i = 3 ∨ i = 4 ∨ i = 5 ∨ i = 6 ∨ i = 7 ∨ i = 8 ∨ i = 9 ∨ i = 10 ∨ i = 11 := by omega
    rcases hi' with rfl | rfl | rfl | rfl | rfl | rfl | rfl | rfl | rfl | rfl | rfl | rfl
    all_goals simp only [List.getElem?_cons_zero, List.getElem?_cons_succ, Option.some.injEq] at ho
    all_goals subst ho
    · exact op_move (x := .tmp 3) rfl ev3 ⟨_, rfl, Below.refl _ _, rfl⟩
    · refine op_load (x := .tmp 1) rfl ev1 (run_load30 g.box) ?_
      exact ⟨_, rfl, Below.refl _ _, rfl⟩
    · exact op_move (x := .tmp 4) rfl ev4 ⟨_, rfl, Below.refl _ _, rfl⟩
    · have h0 : vals 1 = .agg #[.string (FNode.name t), .bool (FNode.array t), .string (FNode.needed t), .string (FNode.left t), .slice a4 n4 d4, .slice a5 n5 d5, .slice a6 n6 d6, .slice a7 n7 d7, .slice (some ⟨g8, 0, none⟩) (FNode.counts t).length d8, .slice a9 n9 d9, .slice a10 n10 d10] := hd ⟨1, .data⟩ (by simp) rfl
      have h1 : vals 2 = .int .i64 k := hd ⟨2, .data⟩ (by simp) rfl
      refine op_call (f := 23) rfl (map2 (ev17.trans h0) (ev18.trans h1)) (fun w => Try.call23 _ w) ?_
      refine (get23 _ _ _ _ _ _ _ _ _ _ g8 _ _ k (.string (FNode.counts t)[k].1) w' hk hmax (Nat.lt_of_lt_of_le hg8 hb.size) (cell_up hb hg8 hc0)).mono ?_
      rintro e w2 ⟨rfl, hb2⟩
      exact ⟨_, rfl, _, rfl, hb2, rfl⟩
    · refine op_load (x := .tmp 1) rfl ev1 (run_load30 g.box) ?_
      exact ⟨_, rfl, Below.refl _ _, rfl⟩
    · exact op_move (x := .tmp 4) rfl ev4 ⟨_, rfl, Below.refl _ _, rfl⟩
    · have h0 : vals 4 = .agg #[.string (FNode.name t), .bool (FNode.array t), .string (FNode.needed t), .string (FNode.left t), .slice a4 n4 d4, .slice a5 n5 d5, .slice a6 n6 d6, .slice a7 n7 d7, .slice (some ⟨g8, 0, none⟩) (FNode.counts t).length d8, .slice a9 n9 d9, .slice a10 n10 d10] := hd ⟨4, .data⟩ (by simp) rfl
      have h1 : vals 5 = .int .i64 k := hd ⟨5, .data⟩ (by simp) rfl
      refine op_call (f := 24) rfl (map2 (ev20.trans h0) (ev21.trans h1)) (fun w => Try.call24 _ w) ?_
      refine (get24 _ _ _ _ _ _ _ _ _ _ g8 _ _ k (.string (FNode.counts t)[k].2.1) w' hk hmax (Nat.lt_of_lt_of_le hg8 hb.size) (cell_up hb hg8 hc1)).mono ?_
      rintro e w2 ⟨rfl, hb2⟩
      exact ⟨_, rfl, _, rfl, hb2, rfl⟩
    · refine op_load (x := .tmp 1) rfl ev1 (run_load30 g.box) ?_
      exact ⟨_, rfl, Below.refl _ _, rfl⟩
    · exact op_move (x := .tmp 4) rfl ev4 ⟨_, rfl, Below.refl _ _, rfl⟩
    · have h0 : vals 7 = .agg #[.string (FNode.name t), .bool (FNode.array t), .string (FNode.needed t), .string (FNode.left t), .slice a4 n4 d4, .slice a5 n5 d5, .slice a6 n6 d6, .slice a7 n7 d7, .slice (some ⟨g8, 0, none⟩) (FNode.counts t).length d8, .slice a9 n9 d9, .slice a10 n10 d10] := hd ⟨7, .data⟩ (by simp) rfl
      have h1 : vals 8 = .int .i64 k := hd ⟨8, .data⟩ (by simp) rfl
      refine op_call (f := 25) rfl (map2 (ev23.trans h0) (ev24.trans h1)) (fun w => Try.call25 _ w) ?_
      refine (get25 _ _ _ _ _ _ _ _ _ _ g8 _ _ k (.int .i64 (FNode.counts t)[k].2.2) w' hk hmax (Nat.lt_of_lt_of_le hg8 hb.size) (cell_up hb hg8 hc2)).mono ?_
      rintro e w2 ⟨rfl, hb2⟩
      exact ⟨_, rfl, _, rfl, hb2, congrArg (Value.int .i64) hint⟩
    · have h3' : vals 3 = .string (FNode.counts t)[k].1 := hd ⟨3, .data⟩ (by simp) rfl
      have h6' : vals 6 = .string (FNode.counts t)[k].2.1 := hd ⟨6, .data⟩ (by simp) rfl
      have h9' : vals 9 = .int .i64 ((((FNode.counts t)[k].2.2).toNat : Nat) : Int) := hd ⟨9, .data⟩ (by simp) rfl
      refine op_call (f := 22) rfl (map3 (ev19.trans h3') (ev22.trans h6') (ev25.trans h9')) (fun w => Try.call22 _ w) ?_
      refine (encCount22 _ _ _ (by omega) hs w').mono ?_
      rintro e w2 ⟨rfl, hb2⟩
      exact ⟨_, rfl, _, rfl, hb2, rfl⟩
    · have h10' : vals 10 = .string (countB (FNode.counts t)[k]) := hd ⟨10, .data⟩ (by simp) rfl
      refine op_buildSlice (vs := #[(0, .string (countB (FNode.counts t)[k]))]) rfl (by simp only [List.map_toArray, List.map_cons, List.map_nil, ev26, h10']) (run_strs1 _ _) ?_
      exact ⟨_, rfl, (Below.refl _ _).alloc (Nat.le_refl _) _, ownsRow_block (n := 1) (blk_top _ _ rfl) (by decide) rfl rfl⟩
  case hend =>
    intro vals w' hb hd
    have e0 : vals 0 = s3 := hd 0 (by omega)
    have h11 : SR w' (vals 11) [(countB (FNode.counts t)[k])] := hd 11 (by omega)
    have hbW' : Below W.heap.size W w' := hbW.trans (hb.mono hbW.size)
    have HQ := hide hQ
    have HBW := hide hbW'
    have H3 := hide (ownsRow_below h3 hb)
    have H11 := hide h11
    have hbs := hbW'.size
    clear hQ h h3 hd hb hbW hbW' hs h11 hc0 hc1 hc2 hg8
    subst ha0
    dsimp only [List.drop]
    simp only [fill, Act.put, List.setIfInBounds_toArray, List.set_cons_succ, List.set_cons_zero, Nat.zero_add, Nat.reduceAdd, e0]
    clear e0
    refine wpl_append_strs (v := s3) rfl _ _ rfl W.heap.size _ _ rfl (unhide H3) 0 _ _ _ rfl (unhide H11) (one_strs _) hlen hbs ?_
    intro v' w3 hown3 hgrow3 hat3
    have HB3 := hide ((unhide HBW).grown hgrow3 hbs (fun b hb => ((unhide H3).lt b hb).1))
    have HO3 : Hid (w3.ownsRow W.heap.size 9 1 v' (l ++ [(countB (FNode.counts t)[k])]).length ((l ++ [(countB (FNode.counts t)[k])]).map .string)) := by
      show w3.ownsRow W.heap.size 9 1 v' (l ++ [(countB (FNode.counts t)[k])]).length ((l ++ [(countB (FNode.counts t)[k])]).map .string)
      simpa using hown3
    clear hown3 hgrow3 hat3
    simp only [Act.put, List.setIfInBounds_toArray, List.set_cons_succ, List.set_cons_zero]
    go_wp2_with fail
    exact (unhide HQ) _ _ _ _ _ _ _ _ _ _ _ _ _ v' _ (unhide HO3) (unhide HB3)

set_option maxRecDepth 100000 in
set_option maxHeartbeats 2000000 in
theorem enc8_step (n : Nat) (ih : IH8 n) : IH8 (n + 1) := by
  intro t X w v hf hF hs0
  have hs : (nodeB (FNode.name t) (FNode.array t) (FNode.needed t) (FNode.left t) (FNode.keys t) (FNode.optional t) (FNode.together t) (FNode.oneOf t) ((FNode.counts t).map countB) (FNode.bases t) ((FNode.tables t).map (enc n))).size < 2 ^ 62 := hs0
  show Calls Try.prog 8 #[v] w (PostE w (nodeB (FNode.name t) (FNode.array t) (FNode.needed t) (FNode.left t) (FNode.keys t) (FNode.optional t) (FNode.together t) (FNode.oneOf t) ((FNode.counts t).map countB) (FNode.bases t) ((FNode.tables t).map (enc n))))
  clear hs0
  obtain ⟨a4, n4, d4, a5, n5, d5, a6, n6, d6, a7, n7, d7, a8, n8, d8, a9, n9, d9, a10, n10, d10, rfl, i1, i2, i3, i4, i5, i6, i7⟩ := hf.open
  obtain ⟨hn8, hmax⟩ := counts_len i5
  subst hn8
  unfold maxLen at hmax
  have hcl := hF.2.1
  have HF := hide hF
  have HIH := hide ih
  have HS := hide hs
  have HE := hide (WE.mk (X := X) (w := w) (n := n) (t := t) (sa := .slice none 0 0) (allowed := []) (Own.nil _ _ _ _) i1 i2 i3 i4 i5 i6 i7)
  clear hf hF hs ih i1 i2 i3 i4 i5 i6 i7
  go_enter Try.func8, Try.ntmps8
  change Code.wp Try.prog (Try.f8.body.getD .skip) _ _ _
  obtain ⟨C, hC⟩ : ∃ C, C = dropSeq 3 (Try.f8.body.getD .skip) := ⟨_, rfl⟩
  have e : (Try.f8.body.getD .skip) = replTail 3 ((Try.f8.body.getD .skip)) C := by subst hC; rfl
  rw [e]
  have HC := hide hC
  clear hC e
  conv => arg 2; whnf
  simp only [replTail]
  go_wp2_with fail
  obtain ⟨W, hW⟩ : ∃ W, W = w.alloc (.cells #[.string (FNode.name t), .bool (FNode.array t), .string (FNode.needed t), .string (FNode.left t), .slice a4 n4 d4, .slice a5 n5 d5, .slice a6 n6 d6, .slice a7 n7 d7, .slice a8 (FNode.counts t).length d8, .slice a9 n9 d9, .slice a10 n10 d10] 30) := ⟨_, rfl⟩
  have hVB : VarB W w.heap.size #[.string (FNode.name t), .bool (FNode.array t), .string (FNode.needed t), .string (FNode.left t), .slice a4 n4 d4, .slice a5 n5 d5, .slice a6 n6 d6, .slice a7 n7 d7, .slice a8 (FNode.counts t).length d8, .slice a9 n9 d9, .slice a10 n10 d10] := by subst hW; exact VarB.new _ _ rfl
  have hbW : Below w.heap.size w W := by subst hW; exact (Below.refl _ _).alloc (Nat.le_refl _) _
  have HWS := hide ((unhide HE).ws hbW hVB)
  rw [← hW]
  clear hW hVB hbW
  go_loopw [3, 4] (fun s i wr => ∃ k : Nat, k ≤ (FNode.counts t).length ∧ i = .int .i64 k ∧ Below W.heap.size W wr ∧ wr.ownsRow W.heap.size 9 1 s (((FNode.counts t).map countB).take k).length ((((FNode.counts t).map countB).take k).map .string)) (fun _ i _ => (FNode.counts t).length - (intOf i).toNat)
  case atStart => exact ⟨0, Nat.zero_le _, rfl, Below.refl _ _, World.ownsRow_nil _ _ _ _⟩
  case round =>
    obtain ⟨k, hk, rfl, hbr, hsr⟩ := hrel
    have HBR := hide hbr
    have HSR := hide hsr
    obtain ⟨bl0, bc0, bf0⟩ := ((unhide HWS).grow hbr).box
    clear hbr hsr
    by_cases hlt : k < (FNode.counts t).length
    · go_wp2_with fail
      refine (get21 _ _ _ _ _ _ _ _ _ _ _ _ _ wr).mono ?_
      rintro e w2 ⟨rfl, hb2⟩
      have HB2 := hide ((unhide HBR).trans (hb2.mono (unhide HBR).size))
      have HSR2 := hide (ownsRow_below (unhide HSR) hb2)
      clear hb2 bl0 bc0 bf0
      have hkm : k < ((FNode.counts t).map countB).length := by simpa using hlt
      have HTK := hide (List.take_succ_eq_append_getElem hkm)
      have hlen : (((FNode.counts t).map countB).take k).length + 1 ≤ 1000000 := by simp only [List.length_take, List.length_map]; omega
      have hz : ((countB (FNode.counts t)[k])).size < 2 ^ 62 := by
        have h := encList_mem hkm
        have h2 := unhide HS
        rw [nodeB_size] at h2
        simp only [List.getElem_map] at h
        omega
      go_wp2_with fail
      refine r5 rfl ((unhide HWS).grow (unhide HB2)) (unhide HSR2) (unhide HB2) hlt (unhide HF) hz hlen ?_
      intro u16 u17 u18 u19 u20 u21 u22 u23 u24 u25 u26 u27 u28 s' w3 hown3 hb3
      have HO3 := hide hown3
      have HB3 := hide hb3
      clear hown3 hb3
      dsimp only
      go_wp2_with fail
      go_roundw
      case rel =>
        refine ⟨k + 1, by omega, by go_num, unhide HB3, ?_⟩
        rw [unhide HTK]
        simp only [List.getElem_map]
        exact unhide HO3
      case measure => simp [intOf]; omega
    · have hfin : ((FNode.counts t).map countB).take k = ((FNode.counts t).map countB) := List.take_of_length_le (by simp; omega)
      have hs2 := unhide HSR
      rw [hfin] at hs2
      have HS2 : Hid (SR wr u3 ((FNode.counts t).map countB)) := ownsRow_zero hs2
      clear hs2 hfin
      go_wp2_with fail
      refine (get21 _ _ _ _ _ _ _ _ _ _ _ _ _ wr).mono ?_
      rintro e w2 ⟨rfl, hb2⟩
      have HB2 := hide ((unhide HBR).trans (hb2.mono (unhide HBR).size))
      have HS3 := hide ((unhide HS2).below hb2)
      clear hb2 bl0 bc0 bf0
      go_wp2_with fail
      rw [unhide HC]
      exact e3 (unhide HIH) ((unhide HWS).grow (unhide HB2)) (unhide HS3) (unhide HF) (unhide HS)

theorem enc8 : ∀ n, IH8 n
  | 0, t, _, _, _, _, _, _ => nomatch t
  | n + 1, t, X, w, v, h1, h2, h3 => enc8_step n (enc8 n) t X w v h1 h2 h3
end Go.Proofs.Qxb6601023a
