/-
  OWN WORK. zzEncForm_b1: the encoding of a form is the encoding of its tree.
-/
import Derived.Test.Qxb6601023aNode
namespace Go.Proofs.Qxb6601023a
open Go Go.RowKit Go.Flow
set_option linter.unusedVariables false
set_option linter.unusedSimpArgs false

theorem op_call {o : Oper} {a : Act} {w : World} {K : Act → World → Prop} {Q : Exit → Act → World → Prop} {f : FuncId} {args : Array Operand} {tys : Array TypeId} {vs : Array Value}
    (ho : o.op = .call { callee := .value (.func f), args := args, argTypes := tys }) (hx : args.map a.eval = vs)
    (hf : ∀ w, (callFunc f vs).run Try.prog w = .ok (.enter f vs) w)
    (hc : Calls Try.prog f vs w fun e w'' => ∃ v, e = .returned v ∧ K (a.put o.dst v) w'') : o.wp Try.prog a w K Q := by
  refine op_enter (f := f) (args := vs) ?_ hc
  have e1 : a.eval (.func f) = .func (.func f) #[] #[] := rfl
  unfold execOp
  simp [ho, resolve, invoke, Deferred.ofValue, hx, hf, e1]
theorem map1 {a : Act} {x : Operand} {v : Value} (h : a.eval x = v) : (#[x].map a.eval) = #[v] := by simp [h]
theorem map2 {a : Act} {x y : Operand} {v u : Value} (h : a.eval x = v) (h' : a.eval y = u) : (#[x, y].map a.eval) = #[v, u] := by simp [h, h']
theorem map3 {a : Act} {x y z : Operand} {v u q : Value} (h : a.eval x = v) (h' : a.eval y = u) (h'' : a.eval z = q) : (#[x, y, z].map a.eval) = #[v, u, q] := by simp [h, h', h'']

def countB (c : ByteArray × ByteArray × Int) : ByteArray := encCount c.1 c.2.1 c.2.2.toNat
/-- The encoding of a tree. -/
def enc : (n : Nat) → FTree n → ByteArray
  | 0, t => nomatch t
  | n + 1, t => nodeB (FNode.name t) (FNode.array t) (FNode.needed t) (FNode.left t) (FNode.keys t) (FNode.optional t) (FNode.together t) (FNode.oneOf t) ((FNode.counts t).map countB) (FNode.bases t) ((FNode.tables t).map (enc n))
/-- Small numbers. -/
def Fit : (n : Nat) → FTree n → Prop
  | 0, t => nomatch t
  | n + 1, t => (FNode.together t).length ≤ 1000 ∧ (FNode.counts t).length ≤ 1000 ∧ (FNode.bases t).length ≤ 1000 ∧ (FNode.tables t).length ≤ 1000 ∧ (∀ c ∈ FNode.counts t, 0 ≤ c.2.2 ∧ c.2.2 < 1000) ∧ ∀ t' ∈ FNode.tables t, Fit n t'

def PostE (w : World) (r : ByteArray) (e : Ending) (w' : World) : Prop := e = .returned (.string r) ∧ Below w.heap.size w w'

def phi17 (A c0 c1 c2 c3 c4 c5 c6 c7 s3 s5 s8 : Value) : Nat → Value → World → Prop
  | 0, v, _ => v = A
  | 1, v, _ => v = c0
  | 2, v, _ => v = A
  | 3, v, _ => v = c1
  | 4, v, _ => v = A
  | 5, v, _ => v = c2
  | 6, v, _ => v = A
  | 7, v, _ => v = c3
  | 8, v, _ => v = A
  | 9, v, _ => v = c4
  | 10, v, _ => v = A
  | 11, v, _ => v = c5
  | 12, v, _ => v = A
  | 13, v, _ => v = c6
  | 14, v, _ => v = A
  | 15, v, _ => v = c7
  | 16, v, _ => v = s3
  | 17, v, _ => v = s5
  | 18, v, _ => v = s8
  | _, _, _ => False
theorem phi17_keep {A c0 c1 c2 c3 c4 c5 c6 c7 s3 s5 s8 : Value} (i : Nat) (v : Value) (w1 w2 : World) (hi : i < 19) (h : phi17 A c0 c1 c2 c3 c4 c5 c6 c7 s3 s5 s8 i v w1) (hb : Below w1.heap.size w1 w2) : phi17 A c0 c1 c2 c3 c4 c5 c6 c7 s3 s5 s8 i v w2 := by
  match i, h with
  | 0, h => exact h
  | 1, h => exact h
  | 2, h => exact h
  | 3, h => exact h
  | 4, h => exact h
  | 5, h => exact h
  | 6, h => exact h
  | 7, h => exact h
  | 8, h => exact h
  | 9, h => exact h
  | 10, h => exact h
  | 11, h => exact h
  | 12, h => exact h
  | 13, h => exact h
  | 14, h => exact h
  | 15, h => exact h
  | 16, h => exact h
  | 17, h => exact h
  | 18, h => exact h

set_option maxRecDepth 100000 in
set_option maxHeartbeats 2000000 in
theorem r17 {X : List Nat} {w ws : World} {n : Nat} {t : FTree (n + 1)} {a4 a5 a6 a7 a8 a9 a10 : Option Addr} {n4 d4 n5 d5 n6 d6 n7 d7 n8 d8 n9 d9 n10 d10 : Nat} {s3 s5 s8 : Value} {lc lb lt : List ByteArray} {u0 u2 u4 u6 u7 u9 u10 u11 u12 u13 u14 u15 u16 u17 u18 u19 u20 u21 u22 u23 u24 u25 u26 u27 u28 u29 u30 u31 u32 u33 u34 u35 u36 u37 u38 u39 u40 u41 u42 u43 u44 u45 u46 u47 u48 u49 u50 u51 u52 u53 u54 u55 u56 u57 u58 u59 u60 u61 u62 u63 u64 u65 u66 u67 u68 u69 u70 u71 u72 u73 u74 u75 u76 : Value} {Qx : Exit → Act → World → Prop} {a0 : Act} (ha0 : a0 = ⟨#[u0, .pointer (some ⟨w.heap.size, 0, none⟩), u2, s3, u4, s5, u6, u7, s8, u9, u10, u11, u12, u13, u14, u15, u16, u17, u18, u19, u20, u21, u22, u23, u24, u25, u26, u27, u28, u29, u30, u31, u32, u33, u34, u35, u36, u37, u38, u39, u40, u41, u42, u43, u44, u45, u46, u47, u48, u49, u50, u51, u52, u53, u54, u55, u56, u57, u58, u59, u60, u61, u62, u63, u64, u65, u66, u67, u68, u69, u70, u71, u72, u73, u74, u75, u76], []⟩)
    (h : WS X w ws n t (.slice none 0 0) [] a4 n4 d4 a5 n5 d5 a6 n6 d6 a7 n7 d7 a8 n8 d8 a9 n9 d9 a10 n10 d10) (h3 : SR ws s3 lc) (h5 : SR ws s5 lb) (h8 : SR ws s8 lt) (hl : (FNode.together t).length ≤ 1000) (hs : (nodeB (FNode.name t) (FNode.array t) (FNode.needed t) (FNode.left t) (FNode.keys t) (FNode.optional t) (FNode.together t) (FNode.oneOf t) lc lb lt).size < 2 ^ 62)
    (hQ : ∀ (u0 u4 u6 u7 u9 u10 u11 u12 u13 u14 u15 u16 u17 u18 u19 u20 u21 u22 u23 u24 u25 u26 u27 u28 u29 u30 u31 u32 u33 u34 u35 u36 u37 u38 u39 u40 u41 u42 u43 u44 u45 u46 u47 u48 u49 u50 u51 u52 u53 u54 u55 u56 u57 u58 u59 u60 u61 u62 u63 u64 u65 u66 u67 u68 u69 u70 u71 u72 u73 u74 u75 u76 : Value) (w' : World) (R : ByteArray), R = nodeB (FNode.name t) (FNode.array t) (FNode.needed t) (FNode.left t) (FNode.keys t) (FNode.optional t) (FNode.together t) (FNode.oneOf t) lc lb lt → Below w.heap.size w w' → Qx .normal ⟨#[u0, .pointer (some ⟨w.heap.size, 0, none⟩), .string R, s3, u4, s5, u6, u7, s8, u9, u10, u11, u12, u13, u14, u15, u16, u17, u18, u19, u20, u21, u22, u23, u24, u25, u26, u27, u28, u29, u30, u31, u32, u33, u34, u35, u36, u37, u38, u39, u40, u41, u42, u43, u44, u45, u46, u47, u48, u49, u50, u51, u52, u53, u54, u55, u56, u57, u58, u59, u60, u61, u62, u63, u64, u65, u66, u67, u68, u69, u70, u71, u72, u73, u74, u75, u76], []⟩ w') :
    Code.wp Try.prog (headOf (dropSeq 8 (Try.f8.body.getD .skip))) Qx a0 ws := by
  conv => arg 2; whnf
  refine wp_region_flow2 19 [57, 58, 59, 60, 61, 62, 63, 64, 65, 66, 67, 68, 69, 70, 71, 72, 73, 74, 75] (phi17 (.agg #[.string (FNode.name t), .bool (FNode.array t), .string (FNode.needed t), .string (FNode.left t), .slice a4 n4 d4, .slice a5 n5 d5, .slice a6 n6 d6, .slice a7 n7 d7, .slice a8 n8 d8, .slice a9 n9 d9, .slice a10 n10 d10]) (.string (FNode.name t)) (.bool (FNode.array t)) (.string (FNode.needed t)) (.string (FNode.left t)) (.slice a4 n4 d4) (.slice a5 n5 d5) (.slice a6 n6 d6) (.slice a7 n7 d7) s3 s5 s8) (by kernel_rfl) (by kernel_rfl) phi17_keep ?hop ?hend
  case hop =>
    intro i o hi ho vals F w' hF hb hd
    have g := h.grow hb
    have hs0 : a0.tmps.size = 77 := by subst ha0; rfl
    have ev1 : F.eval (.tmp 1) = .pointer (some ⟨w.heap.size, 0, none⟩) := by
      rw [hF, fill_out _ _ _ _ _ (by decide)]
      subst ha0
      rfl
    have ev3 : F.eval (.tmp 3) = s3 := by
      rw [hF, fill_out _ _ _ _ _ (by decide)]
      subst ha0
      rfl
    have ev5 : F.eval (.tmp 5) = s5 := by
      rw [hF, fill_out _ _ _ _ _ (by decide)]
      subst ha0
      rfl
    have ev8 : F.eval (.tmp 8) = s8 := by
      rw [hF, fill_out _ _ _ _ _ (by decide)]
      subst ha0
      rfl
    have ev57 : F.eval (.tmp 57) = vals 0 := (congrArg (fun f => Act.eval f (.tmp 57)) hF).trans ((fill_in _ 0 0 vals a0 57 (by decide) rfl (by rw [hs0]; decide)).trans (congrArg vals (Nat.zero_add _)))
    have ev59 : F.eval (.tmp 59) = vals 2 := (congrArg (fun f => Act.eval f (.tmp 59)) hF).trans ((fill_in _ 0 2 vals a0 59 (by decide) rfl (by rw [hs0]; decide)).trans (congrArg vals (Nat.zero_add _)))
    have ev61 : F.eval (.tmp 61) = vals 4 := (congrArg (fun f => Act.eval f (.tmp 61)) hF).trans ((fill_in _ 0 4 vals a0 61 (by decide) rfl (by rw [hs0]; decide)).trans (congrArg vals (Nat.zero_add _)))
    have ev63 : F.eval (.tmp 63) = vals 6 := (congrArg (fun f => Act.eval f (.tmp 63)) hF).trans ((fill_in _ 0 6 vals a0 63 (by decide) rfl (by rw [hs0]; decide)).trans (congrArg vals (Nat.zero_add _)))
    have ev65 : F.eval (.tmp 65) = vals 8 := (congrArg (fun f => Act.eval f (.tmp 65)) hF).trans ((fill_in _ 0 8 vals a0 65 (by decide) rfl (by rw [hs0]; decide)).trans (congrArg vals (Nat.zero_add _)))
    have ev67 : F.eval (.tmp 67) = vals 10 := (congrArg (fun f => Act.eval f (.tmp 67)) hF).trans ((fill_in _ 0 10 vals a0 67 (by decide) rfl (by rw [hs0]; decide)).trans (congrArg vals (Nat.zero_add _)))
    have ev69 : F.eval (.tmp 69) = vals 12 := (congrArg (fun f => Act.eval f (.tmp 69)) hF).trans ((fill_in _ 0 12 vals a0 69 (by decide) rfl (by rw [hs0]; decide)).trans (congrArg vals (Nat.zero_add _)))
    have ev71 : F.eval (.tmp 71) = vals 14 := (congrArg (fun f => Act.eval f (.tmp 71)) hF).trans ((fill_in _ 0 14 vals a0 71 (by decide) rfl (by rw [hs0]; decide)).trans (congrArg vals (Nat.zero_add _)))
    clear hF
    clear hQ ha0
    have hi' : i = 0 ∨ i = 1 ∨ i = 2 ∨ i = 3 ∨ i = 4 ∨ i = 5 ∨ i = 6 ∨ i = 7 ∨ i = 8 ∨ i = 9 ∨ i = 10 ∨ i = 11 ∨ i = 12 ∨ i = 13 ∨ i = 14 ∨ i = 15 ∨ i = 16 ∨ i = 17 ∨ i = 18 := by omega
    rcases hi' with rfl | rfl | rfl | rfl | rfl | rfl | rfl | rfl | rfl | rfl | rfl | rfl | rfl | rfl | rfl | rfl | rfl | rfl | rfl
    all_goals simp only [List.getElem?_cons_zero, List.getElem?_cons_succ, Option.some.injEq] at ho
    all_goals subst ho
    · refine op_load (x := .tmp 1) rfl ev1 (run_load30 g.box) ?_
      exact ⟨_, rfl, Below.refl _ _, rfl⟩
    · have h0 : vals 0 = .agg #[.string (FNode.name t), .bool (FNode.array t), .string (FNode.needed t), .string (FNode.left t), .slice a4 n4 d4, .slice a5 n5 d5, .slice a6 n6 d6, .slice a7 n7 d7, .slice a8 n8 d8, .slice a9 n9 d9, .slice a10 n10 d10] := hd ⟨0, .data⟩ (by simp) rfl
      refine op_call (f := 30) rfl (map1 (ev57.trans h0)) (fun w => Try.call30 _ w) ?_
      refine (get30 _ _ _ _ _ _ _ _ _ _ _ _).mono ?_
      rintro e w2 ⟨rfl, hb2⟩
      exact ⟨_, rfl, _, rfl, hb2, rfl⟩
    · refine op_load (x := .tmp 1) rfl ev1 (run_load30 g.box) ?_
      exact ⟨_, rfl, Below.refl _ _, rfl⟩
    · have h0 : vals 2 = .agg #[.string (FNode.name t), .bool (FNode.array t), .string (FNode.needed t), .string (FNode.left t), .slice a4 n4 d4, .slice a5 n5 d5, .slice a6 n6 d6, .slice a7 n7 d7, .slice a8 n8 d8, .slice a9 n9 d9, .slice a10 n10 d10] := hd ⟨2, .data⟩ (by simp) rfl
      refine op_call (f := 31) rfl (map1 (ev59.trans h0)) (fun w => Try.call31 _ w) ?_
      refine (get31 _ _ _ _ _ _ _ _ _ _ _ _).mono ?_
      rintro e w2 ⟨rfl, hb2⟩
      exact ⟨_, rfl, _, rfl, hb2, rfl⟩
    · refine op_load (x := .tmp 1) rfl ev1 (run_load30 g.box) ?_
      exact ⟨_, rfl, Below.refl _ _, rfl⟩
    · have h0 : vals 4 = .agg #[.string (FNode.name t), .bool (FNode.array t), .string (FNode.needed t), .string (FNode.left t), .slice a4 n4 d4, .slice a5 n5 d5, .slice a6 n6 d6, .slice a7 n7 d7, .slice a8 n8 d8, .slice a9 n9 d9, .slice a10 n10 d10] := hd ⟨4, .data⟩ (by simp) rfl
      refine op_call (f := 32) rfl (map1 (ev61.trans h0)) (fun w => Try.call32 _ w) ?_
      refine (get32 _ _ _ _ _ _ _ _ _ _ _ _).mono ?_
      rintro e w2 ⟨rfl, hb2⟩
      exact ⟨_, rfl, _, rfl, hb2, rfl⟩
    · refine op_load (x := .tmp 1) rfl ev1 (run_load30 g.box) ?_
      exact ⟨_, rfl, Below.refl _ _, rfl⟩
    · have h0 : vals 6 = .agg #[.string (FNode.name t), .bool (FNode.array t), .string (FNode.needed t), .string (FNode.left t), .slice a4 n4 d4, .slice a5 n5 d5, .slice a6 n6 d6, .slice a7 n7 d7, .slice a8 n8 d8, .slice a9 n9 d9, .slice a10 n10 d10] := hd ⟨6, .data⟩ (by simp) rfl
      refine op_call (f := 33) rfl (map1 (ev63.trans h0)) (fun w => Try.call33 _ w) ?_
      refine (get33 _ _ _ _ _ _ _ _ _ _ _ _).mono ?_
      rintro e w2 ⟨rfl, hb2⟩
      exact ⟨_, rfl, _, rfl, hb2, rfl⟩
    · refine op_load (x := .tmp 1) rfl ev1 (run_load30 g.box) ?_
      exact ⟨_, rfl, Below.refl _ _, rfl⟩
    · have h0 : vals 8 = .agg #[.string (FNode.name t), .bool (FNode.array t), .string (FNode.needed t), .string (FNode.left t), .slice a4 n4 d4, .slice a5 n5 d5, .slice a6 n6 d6, .slice a7 n7 d7, .slice a8 n8 d8, .slice a9 n9 d9, .slice a10 n10 d10] := hd ⟨8, .data⟩ (by simp) rfl
      refine op_call (f := 34) rfl (map1 (ev65.trans h0)) (fun w => Try.call34 _ w) ?_
      refine (get34 _ _ _ _ _ _ _ _ _ _ _ _).mono ?_
      rintro e w2 ⟨rfl, hb2⟩
      exact ⟨_, rfl, _, rfl, hb2, rfl⟩
    · refine op_load (x := .tmp 1) rfl ev1 (run_load30 g.box) ?_
      exact ⟨_, rfl, Below.refl _ _, rfl⟩
    · have h0 : vals 10 = .agg #[.string (FNode.name t), .bool (FNode.array t), .string (FNode.needed t), .string (FNode.left t), .slice a4 n4 d4, .slice a5 n5 d5, .slice a6 n6 d6, .slice a7 n7 d7, .slice a8 n8 d8, .slice a9 n9 d9, .slice a10 n10 d10] := hd ⟨10, .data⟩ (by simp) rfl
      refine op_call (f := 35) rfl (map1 (ev67.trans h0)) (fun w => Try.call35 _ w) ?_
      refine (get35 _ _ _ _ _ _ _ _ _ _ _ _).mono ?_
      rintro e w2 ⟨rfl, hb2⟩
      exact ⟨_, rfl, _, rfl, hb2, rfl⟩
    · refine op_load (x := .tmp 1) rfl ev1 (run_load30 g.box) ?_
      exact ⟨_, rfl, Below.refl _ _, rfl⟩
    · have h0 : vals 12 = .agg #[.string (FNode.name t), .bool (FNode.array t), .string (FNode.needed t), .string (FNode.left t), .slice a4 n4 d4, .slice a5 n5 d5, .slice a6 n6 d6, .slice a7 n7 d7, .slice a8 n8 d8, .slice a9 n9 d9, .slice a10 n10 d10] := hd ⟨12, .data⟩ (by simp) rfl
      refine op_call (f := 36) rfl (map1 (ev69.trans h0)) (fun w => Try.call36 _ w) ?_
      refine (get36 _ _ _ _ _ _ _ _ _ _ _ _).mono ?_
      rintro e w2 ⟨rfl, hb2⟩
      exact ⟨_, rfl, _, rfl, hb2, rfl⟩
    · refine op_load (x := .tmp 1) rfl ev1 (run_load30 g.box) ?_
      exact ⟨_, rfl, Below.refl _ _, rfl⟩
    · have h0 : vals 14 = .agg #[.string (FNode.name t), .bool (FNode.array t), .string (FNode.needed t), .string (FNode.left t), .slice a4 n4 d4, .slice a5 n5 d5, .slice a6 n6 d6, .slice a7 n7 d7, .slice a8 n8 d8, .slice a9 n9 d9, .slice a10 n10 d10] := hd ⟨14, .data⟩ (by simp) rfl
      refine op_call (f := 37) rfl (map1 (ev71.trans h0)) (fun w => Try.call37 _ w) ?_
      refine (get37 _ _ _ _ _ _ _ _ _ _ _ _).mono ?_
      rintro e w2 ⟨rfl, hb2⟩
      exact ⟨_, rfl, _, rfl, hb2, rfl⟩
    · exact op_move (x := .tmp 3) rfl ev3 ⟨_, rfl, Below.refl _ _, rfl⟩
    · exact op_move (x := .tmp 5) rfl ev5 ⟨_, rfl, Below.refl _ _, rfl⟩
    · exact op_move (x := .tmp 8) rfl ev8 ⟨_, rfl, Below.refl _ _, rfl⟩
  case hend =>
    intro vals w' hb hd
    have g := h.grow hb
    have e1 : vals 1 = .string (FNode.name t) := hd 1 (by omega)
    have e3 : vals 3 = .bool (FNode.array t) := hd 3 (by omega)
    have e5 : vals 5 = .string (FNode.needed t) := hd 5 (by omega)
    have e7 : vals 7 = .string (FNode.left t) := hd 7 (by omega)
    have e9 : vals 9 = .slice a4 n4 d4 := hd 9 (by omega)
    have e11 : vals 11 = .slice a5 n5 d5 := hd 11 (by omega)
    have e13 : vals 13 = .slice a6 n6 d6 := hd 13 (by omega)
    have e15 : vals 15 = .slice a7 n7 d7 := hd 15 (by omega)
    have e16 : vals 16 = s3 := hd 16 (by omega)
    have e17 : vals 17 = s5 := hd 17 (by omega)
    have e18 : vals 18 = s8 := hd 18 (by omega)
    have HQ := hide hQ
    have G := hide g
    have H3 := hide (h3.below hb)
    have H5 := hide (h5.below hb)
    have H8 := hide (h8.below hb)
    have HS := hide hs
    clear hQ g h h3 h5 h8 hd hb hs
    subst ha0
    dsimp only [List.drop]
    simp only [fill, Act.put, List.setIfInBounds_toArray, List.set_cons_succ, List.set_cons_zero, Nat.zero_add, Nat.reduceAdd, e1, e3, e5, e7, e9, e11, e13, e15, e16, e17, e18]
    clear e1 e3 e5 e7 e9 e11 e13 e15 e16 e17 e18
    go_wp2_with fail
    refine (node29 (FNode.name t) (FNode.array t) (FNode.needed t) (FNode.left t) (unhide G).keys.row (unhide G).opt.row (unhide G).tog (unhide G).one.row (unhide H3) (unhide H5) (unhide H8) hl (unhide HS)).mono ?_
    rintro e w2 ⟨rfl, hb2⟩
    have HB2 := hide ((unhide G).below.trans (hb2.mono (unhide G).below.size))
    obtain ⟨R, hR⟩ : ∃ R, R = nodeB (FNode.name t) (FNode.array t) (FNode.needed t) (FNode.left t) (FNode.keys t) (FNode.optional t) (FNode.together t) (FNode.oneOf t) lc lb lt := ⟨_, rfl⟩
    rw [← hR]
    have HR := hide hR
    clear hb2 hR
    go_wp2_with fail
    exact (unhide HQ) _ _ _ _ _ _ _ _ _ _ _ _ _ _ _ _ _ _ _ _ _ _ _ _ _ _ _ _ _ _ _ _ _ _ _ _ _ _ _ _ _ _ _ _ _ _ _ _ _ _ _ _ _ _ _ _ _ _ _ _ _ _ _ _ _ _ _ _ _ _ _ _ _ R (unhide HR) (unhide HB2)

set_option maxRecDepth 100000 in
set_option maxHeartbeats 2000000 in
theorem e8 {X : List Nat} {w ws : World} {n : Nat} {t : FTree (n + 1)} {a4 a5 a6 a7 a8 a9 a10 : Option Addr} {n4 d4 n5 d5 n6 d6 n7 d7 n8 d8 n9 d9 n10 d10 : Nat} {s3 s5 s8 : Value} {lc lb lt : List ByteArray} {u0 u2 u4 u6 u7 u9 u10 u11 u12 u13 u14 u15 u16 u17 u18 u19 u20 u21 u22 u23 u24 u25 u26 u27 u28 u29 u30 u31 u32 u33 u34 u35 u36 u37 u38 u39 u40 u41 u42 u43 u44 u45 u46 u47 u48 u49 u50 u51 u52 u53 u54 u55 u56 u57 u58 u59 u60 u61 u62 u63 u64 u65 u66 u67 u68 u69 u70 u71 u72 u73 u74 u75 u76 : Value}
    (h : WS X w ws n t (.slice none 0 0) [] a4 n4 d4 a5 n5 d5 a6 n6 d6 a7 n7 d7 a8 n8 d8 a9 n9 d9 a10 n10 d10) (h3 : SR ws s3 lc) (h5 : SR ws s5 lb) (h8 : SR ws s8 lt) (hl : (FNode.together t).length ≤ 1000) (hs : (nodeB (FNode.name t) (FNode.array t) (FNode.needed t) (FNode.left t) (FNode.keys t) (FNode.optional t) (FNode.together t) (FNode.oneOf t) lc lb lt).size < 2 ^ 62) :
    Code.wp Try.prog (dropSeq 8 (Try.f8.body.getD .skip)) (bodyPost Try.prog Try.f8 (PostE w (nodeB (FNode.name t) (FNode.array t) (FNode.needed t) (FNode.left t) (FNode.keys t) (FNode.optional t) (FNode.together t) (FNode.oneOf t) lc lb lt))) ⟨#[u0, .pointer (some ⟨w.heap.size, 0, none⟩), u2, s3, u4, s5, u6, u7, s8, u9, u10, u11, u12, u13, u14, u15, u16, u17, u18, u19, u20, u21, u22, u23, u24, u25, u26, u27, u28, u29, u30, u31, u32, u33, u34, u35, u36, u37, u38, u39, u40, u41, u42, u43, u44, u45, u46, u47, u48, u49, u50, u51, u52, u53, u54, u55, u56, u57, u58, u59, u60, u61, u62, u63, u64, u65, u66, u67, u68, u69, u70, u71, u72, u73, u74, u75, u76], []⟩ ws := by
  have HW := hide h
  have H3 := hide h3
  have H5 := hide h5
  have H8 := hide h8
  have HS := hide hs
  clear h h3 h5 h8 hs
  conv => arg 2; whnf
  go_wp2_with fail
  refine r17 rfl (unhide HW) (unhide H3) (unhide H5) (unhide H8) hl (unhide HS) ?_
  intro u0 u4 u6 u7 u9 u10 u11 u12 u13 u14 u15 u16 u17 u18 u19 u20 u21 u22 u23 u24 u25 u26 u27 u28 u29 u30 u31 u32 u33 u34 u35 u36 u37 u38 u39 u40 u41 u42 u43 u44 u45 u46 u47 u48 u49 u50 u51 u52 u53 u54 u55 u56 u57 u58 u59 u60 u61 u62 u63 u64 u65 u66 u67 u68 u69 u70 u71 u72 u73 u74 u75 u76 w' R hR hb
  have HB := hide hb
  have HR := hide hR
  clear hb hR
  dsimp only
  go_wp2_with fail
  go_ret
  exact ⟨by rw [← unhide HR]; rfl, unhide HB⟩
end Go.Proofs.Qxb6601023a
