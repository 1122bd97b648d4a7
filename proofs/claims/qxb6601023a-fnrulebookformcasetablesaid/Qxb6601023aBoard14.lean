/-
  OWN WORK. rulebookForm (20) at a board: [recusal].
-/
import Derived.Test.Qxb6601023aBoard18
namespace Go.Proofs.Qxb6601023a
open Go.RowKit Go.Flow
set_option linter.unusedVariables false
set_option linter.unusedSimpArgs false

theorem run_strs2 (w : World) (s t : ByteArray) : (Instr.buildSlice 24 2 #[(0, .string s), (1, .string t)]).run Try.prog w = .ok (.slice (some ⟨w.heap.size, 0, none⟩) 2 2) (w.alloc (.cells #[.string s, .string t] 9)) := by kernel_rfl
theorem run_build_count (w : World) (s t : ByteArray) (n : Int) : (Instr.build 57 #[(0, .string s), (1, .string t), (2, .int .i64 n)]).run Try.prog w = .ok (.agg #[.string s, .string t, .int .i64 n]) w := by kernel_rfl
theorem run_counts1 (w : World) (s t : ByteArray) (n : Int) : (Instr.buildSlice 26 1 #[(0, .agg #[.string s, .string t, .int .i64 n])]).run Try.prog w = .ok (.slice (some ⟨w.heap.size, 0, none⟩) 1 1) (w.alloc (.cells #[.string s, .string t, .int .i64 n] 57)) := by kernel_rfl
theorem run_build_rec (nm lo : ByteArray) (a : Option Addr) (n c : Nat) (a1 : Option Addr) (n1 d1 : Nat) (a' : Option Addr) (n' c' : Nat) (w : World) : (Instr.build 30 #[(0, .string nm), (3, .string lo), (4, .slice a n c), (8, .slice a1 n1 d1), (10, .slice a' n' c')]).run Try.prog w =
    .ok (.agg #[.string nm, .bool false, .string k_empty, .string lo, .slice a n c, .slice none 0 0, .slice none 0 0, .slice none 0 0, .slice a1 n1 d1, .slice none 0 0, .slice a' n' c']) w := by kernel_rfl

theorem VarB.set11 {w : World} {b : Nat} {c0 c1 c2 c3 c4 c5 c6 c7 c8 c9 c10 v0 v1 v2 v3 v4 v5 v6 v7 v8 v9 v10 : Value} (h : VarB w b #[c0, c1, c2, c3, c4, c5, c6, c7, c8, c9, c10]) : VarB (((((((((((w.setCell ⟨b, 0, none⟩ v0).setCell ⟨b, 1, none⟩ v1).setCell ⟨b, 2, none⟩ v2).setCell ⟨b, 3, none⟩ v3).setCell ⟨b, 4, none⟩ v4).setCell ⟨b, 5, none⟩ v5).setCell ⟨b, 6, none⟩ v6).setCell ⟨b, 7, none⟩ v7).setCell ⟨b, 8, none⟩ v8).setCell ⟨b, 9, none⟩ v9).setCell ⟨b, 10, none⟩ v10) b #[v0, v1, v2, v3, v4, v5, v6, v7, v8, v9, v10] := by
  have h0 : VarB _ b #[v0, c1, c2, c3, c4, c5, c6, c7, c8, c9, c10] := h.set (j := 0) v0 (by simp)
  have h1 : VarB _ b #[v0, v1, c2, c3, c4, c5, c6, c7, c8, c9, c10] := h0.set (j := 1) v1 (by simp)
  have h2 : VarB _ b #[v0, v1, v2, c3, c4, c5, c6, c7, c8, c9, c10] := h1.set (j := 2) v2 (by simp)
  have h3 : VarB _ b #[v0, v1, v2, v3, c4, c5, c6, c7, c8, c9, c10] := h2.set (j := 3) v3 (by simp)
  have h4 : VarB _ b #[v0, v1, v2, v3, v4, c5, c6, c7, c8, c9, c10] := h3.set (j := 4) v4 (by simp)
  have h5 : VarB _ b #[v0, v1, v2, v3, v4, v5, c6, c7, c8, c9, c10] := h4.set (j := 5) v5 (by simp)
  have h6 : VarB _ b #[v0, v1, v2, v3, v4, v5, v6, c7, c8, c9, c10] := h5.set (j := 6) v6 (by simp)
  have h7 : VarB _ b #[v0, v1, v2, v3, v4, v5, v6, v7, c8, c9, c10] := h6.set (j := 7) v7 (by simp)
  have h8 : VarB _ b #[v0, v1, v2, v3, v4, v5, v6, v7, v8, c9, c10] := h7.set (j := 8) v8 (by simp)
  have h9 : VarB _ b #[v0, v1, v2, v3, v4, v5, v6, v7, v8, v9, c10] := h8.set (j := 9) v9 (by simp)
  have h10 : VarB _ b #[v0, v1, v2, v3, v4, v5, v6, v7, v8, v9, v10] := h9.set (j := 10) v10 (by simp)
  exact h10

/-- What each operation of the region yields. -/
def phi14 (X : List Nat) (f5 : Value) : Nat → Value → World → Prop
  | 0, v, w => Strs X w v [k_refer_below, k_article]
  | 1, v, _ => v = .agg #[.string k_refer_below, .string k_directors, .int .i64 0]
  | 2, v, w => Counts X w v [(k_refer_below, k_directors, 0)]
  | 3, v, _ => v = f5
  | 4, v, w => FormIs X 4 w v (thrT 3 k_quorum k_arecusal bbL)
  | 5, v, _ => v = f5
  | 6, v, w => FormIs X 4 w v (thrT 3 k_pass k_arecusal bbL)
  | 7, v, w => Forms (FormIs X 4 w) X w v [(thrT 3 k_quorum k_arecusal bbL), (thrT 3 k_pass k_arecusal bbL)]
  | 8, v, w => FormIs X 5 w v bdRecusalT
  | _, _, _ => False

theorem phi14_keep {X : List Nat} {f5 : Value} (i : Nat) (v : Value) (w1 w2 : World) (hi : i < 9) (h : phi14 X f5 i v w1) (hb : Below w1.heap.size w1 w2) : phi14 X f5 i v w2 := by
  have k : Keep X w1 w2 := Keep.of_below hb
  match i, h with
  | 0, h => exact Strs.keep h k
  | 1, h => exact h
  | 2, h => exact Counts.keep h k
  | 3, h => exact h
  | 4, h => exact FormIs.keep h k
  | 5, h => exact h
  | 6, h => exact FormIs.keep h k
  | 7, h => exact Forms.keep h k fun _ _ h => FormIs.keep h k
  | 8, h => exact FormIs.keep h k

set_option maxRecDepth 100000 in
set_option maxHeartbeats 1000000 in
theorem bR14 {w0 w : World} {b2 b4 b5 b7 b8 b9 b10 b11 : Nat} {sb : Value} {t7 t8 t9 t10 : FTree 5} {t11 : FTree 4} {u0 u1 u4 u12 u13 u14 u15 u16 u17 u18 u19 u20 u21 u22 u23 u24 u25 u26 u27 u28 u29 u30 u31 u32 u33 u34 u35 u36 u37 u38 u39 u40 u41 u42 u43 u44 u45 u46 u47 u48 u49 u50 u51 u52 u53 u54 u55 u56 u57 u58 u59 u60 u61 u62 u63 u64 u65 u66 u67 u68 u69 u70 u71 u72 u73 u74 u75 u76 u77 u78 u79 u80 u81 u82 u83 u84 u85 u86 u87 u88 u89 u90 u91 u92 u93 u94 u95 u96 u97 u98 u99 u100 u101 u102 u103 u104 u105 u106 u107 u108 u109 u110 u111 u112 u113 u114 u115 u116 u117 u118 u119 u120 u121 : Value} {Qx : Exit → Act → World → Prop} {a0 : Act} (ha0 : a0 = ⟨#[u0, u1, .pointer (some ⟨b2, 0, none⟩), .bool true, u4, .pointer (some ⟨b5, 0, none⟩), .func (.func 43) #[] #[.pointer (some ⟨b5, 0, none⟩)], .pointer (some ⟨b7, 0, none⟩), .pointer (some ⟨b8, 0, none⟩), .pointer (some ⟨b9, 0, none⟩), .pointer (some ⟨b10, 0, none⟩), .pointer (some ⟨b11, 0, none⟩), u12, u13, u14, u15, u16, u17, u18, u19, u20, u21, u22, u23, u24, u25, u26, u27, u28, u29, u30, u31, u32, u33, u34, u35, u36, u37, u38, u39, u40, u41, u42, u43, u44, u45, u46, u47, u48, u49, u50, u51, u52, u53, u54, u55, u56, u57, u58, u59, u60, u61, u62, u63, u64, u65, u66, u67, u68, u69, u70, u71, u72, u73, u74, u75, u76, u77, u78, u79, u80, u81, u82, u83, u84, u85, u86, u87, u88, u89, u90, u91, u92, u93, u94, u95, u96, u97, u98, u99, u100, u101, u102, u103, u104, u105, u106, u107, u108, u109, u110, u111, u112, u113, u114, u115, u116, u117, u118, u119, u120, u121], []⟩) (h : S1 w0 w b2 b4 b5 b7 b8 b9 b10 b11 bbL sb t7 t8 t9 t10 t11)
    (hQ : ∀ (u0 u1 u4 u12 u13 u14 u15 u16 u17 u18 u19 u20 u21 u22 u23 u24 u25 u26 u27 u28 u29 u30 u31 u32 u33 u34 u35 u36 u37 u38 u39 u40 u41 u42 u43 u44 u45 u46 u47 u48 u49 u50 u51 u52 u53 u54 u55 u56 u57 u58 u59 u60 u61 u62 u63 u64 u65 u66 u67 u68 u69 u70 u71 u72 u73 u74 u75 u76 u77 u78 u79 u80 u81 u82 u83 u84 u85 u86 u87 u88 u89 u90 u91 u92 u93 u94 u95 u96 u97 u98 u99 u100 u101 u102 u103 u104 u105 u106 u107 u108 u109 u110 u111 u112 u113 u114 u115 u116 u117 u118 u119 u120 u121 : Value) (w' : World), S1 w0 w' b2 b4 b5 b7 b8 b9 b10 b11 bbL sb t7 bdRecusalT t9 t10 t11 → Qx .normal ⟨#[u0, u1, .pointer (some ⟨b2, 0, none⟩), .bool true, u4, .pointer (some ⟨b5, 0, none⟩), .func (.func 43) #[] #[.pointer (some ⟨b5, 0, none⟩)], .pointer (some ⟨b7, 0, none⟩), .pointer (some ⟨b8, 0, none⟩), .pointer (some ⟨b9, 0, none⟩), .pointer (some ⟨b10, 0, none⟩), .pointer (some ⟨b11, 0, none⟩), u12, u13, u14, u15, u16, u17, u18, u19, u20, u21, u22, u23, u24, u25, u26, u27, u28, u29, u30, u31, u32, u33, u34, u35, u36, u37, u38, u39, u40, u41, u42, u43, u44, u45, u46, u47, u48, u49, u50, u51, u52, u53, u54, u55, u56, u57, u58, u59, u60, u61, u62, u63, u64, u65, u66, u67, u68, u69, u70, u71, u72, u73, u74, u75, u76, u77, u78, u79, u80, u81, u82, u83, u84, u85, u86, u87, u88, u89, u90, u91, u92, u93, u94, u95, u96, u97, u98, u99, u100, u101, u102, u103, u104, u105, u106, u107, u108, u109, u110, u111, u112, u113, u114, u115, u116, u117, u118, u119, u120, u121], []⟩ w') :
    Code.wp Try.prog (headOf (dropSeq 1 (thenOf (headOf (dropSeq 11 (Try.f20.body.getD .skip)))))) Qx a0 w := by
  conv => arg 2; whnf
  refine wp_region_flow2 9 [39, 40, 41, 42, 43, 44, 45, 46, 47] (phi14 [b11, b10, b9, b8, b7, b2] (.func (.func 42) #[] #[.pointer (some ⟨b4, 0, none⟩)])) (by kernel_rfl) (by kernel_rfl) phi14_keep ?hop ?hend
  case hop =>
    intro i o hi ho vals F w' hF hb hd
    have hk : ∀ Y, Keep Y w w' := fun Y => Keep.of_below hb
    have g := h.grow hb
    have hX' := g.lt
    have hs0 : a0.tmps.size = 122 := by subst ha0; rfl
    have ev5 : F.eval (.tmp 5) = .pointer (some ⟨b5, 0, none⟩) := by
      rw [hF, fill_out _ _ _ _ _ (by decide)]
      subst ha0
      rfl
    have ev39 : F.eval (.tmp 39) = vals 0 := (congrArg (fun f => Act.eval f (.tmp 39)) hF).trans ((fill_in _ 0 0 vals a0 39 (by decide) rfl (by rw [hs0]; decide)).trans (congrArg vals (Nat.zero_add _)))
    have ev40 : F.eval (.tmp 40) = vals 1 := (congrArg (fun f => Act.eval f (.tmp 40)) hF).trans ((fill_in _ 0 1 vals a0 40 (by decide) rfl (by rw [hs0]; decide)).trans (congrArg vals (Nat.zero_add _)))
    have ev41 : F.eval (.tmp 41) = vals 2 := (congrArg (fun f => Act.eval f (.tmp 41)) hF).trans ((fill_in _ 0 2 vals a0 41 (by decide) rfl (by rw [hs0]; decide)).trans (congrArg vals (Nat.zero_add _)))
    have ev42 : F.eval (.tmp 42) = vals 3 := (congrArg (fun f => Act.eval f (.tmp 42)) hF).trans ((fill_in _ 0 3 vals a0 42 (by decide) rfl (by rw [hs0]; decide)).trans (congrArg vals (Nat.zero_add _)))
    have ev43 : F.eval (.tmp 43) = vals 4 := (congrArg (fun f => Act.eval f (.tmp 43)) hF).trans ((fill_in _ 0 4 vals a0 43 (by decide) rfl (by rw [hs0]; decide)).trans (congrArg vals (Nat.zero_add _)))
    have ev44 : F.eval (.tmp 44) = vals 5 := (congrArg (fun f => Act.eval f (.tmp 44)) hF).trans ((fill_in _ 0 5 vals a0 44 (by decide) rfl (by rw [hs0]; decide)).trans (congrArg vals (Nat.zero_add _)))
    have ev45 : F.eval (.tmp 45) = vals 6 := (congrArg (fun f => Act.eval f (.tmp 45)) hF).trans ((fill_in _ 0 6 vals a0 45 (by decide) rfl (by rw [hs0]; decide)).trans (congrArg vals (Nat.zero_add _)))
    have ev46 : F.eval (.tmp 46) = vals 7 := (congrArg (fun f => Act.eval f (.tmp 46)) hF).trans ((fill_in _ 0 7 vals a0 46 (by decide) rfl (by rw [hs0]; decide)).trans (congrArg vals (Nat.zero_add _)))
    have ev47 : F.eval (.tmp 47) = vals 8 := (congrArg (fun f => Act.eval f (.tmp 47)) hF).trans ((fill_in _ 0 8 vals a0 47 (by decide) rfl (by rw [hs0]; decide)).trans (congrArg vals (Nat.zero_add _)))
    clear hF
    clear hQ ha0
    have hi' : i = 0 ∨ i = 1 ∨ i = 2 ∨ i = 3 ∨ i = 4 ∨ i = 5 ∨ i = 6 ∨ i = 7 ∨ i = 8 := by omega
    rcases hi' with rfl | rfl | rfl | rfl | rfl | rfl | rfl | rfl | rfl
    all_goals simp only [List.getElem?_cons_zero, List.getElem?_cons_succ, Option.some.injEq] at ho
    all_goals subst ho
    · refine op_buildSlice (vs := #[(0, .string k_refer_below), (1, .string k_article)]) rfl (by simp only [List.map_toArray, List.map_cons, List.map_nil, eval_const]) (run_strs2 _ _ _) ?_
      exact ⟨_, rfl, (Below.refl _ _).alloc (Nat.le_refl _) _, strsLit (blk_top _ _ rfl) (not_mem_of_lt hX' (Nat.le_refl _)) rfl (by decide) rfl rfl⟩
    · refine op_build (vs := #[(0, .string k_refer_below), (1, .string k_directors), (2, .int .i64 0)]) rfl (by simp only [List.map_toArray, List.map_cons, List.map_nil, eval_const]) (run_build_count _ _ _ _) ?_
      exact ⟨_, rfl, Below.refl _ _, rfl⟩
    · have h1 : vals 1 = .agg #[.string k_refer_below, .string k_directors, .int .i64 0] := hd ⟨1, .data⟩ (by simp) rfl
      refine op_buildSlice (vs := #[(0, .agg #[.string k_refer_below, .string k_directors, .int .i64 0])]) rfl (by simp only [List.map_toArray, List.map_cons, List.map_nil, ev40, h1]) (run_counts1 _ _ _ _) ?_
      exact ⟨_, rfl, (Below.refl _ _).alloc (Nat.le_refl _) _, countsLit (blk_top _ _ rfl) (not_mem_of_lt hX' (Nat.le_refl _)) rfl (by decide) rfl rfl⟩
    · refine op_load (x := .tmp 5) rfl ev5 (run_load1 g.s0.c5) ?_
      exact ⟨_, rfl, Below.refl _ _, rfl⟩
    · have h3 : vals 3 = .func (.func 42) #[] #[.pointer (some ⟨b4, 0, none⟩)] := hd ⟨3, .data⟩ (by simp) rfl
      refine op_closure (x := .tmp 42) (s1 := .string k_quorum) (s2 := .string k_arecusal) (p := .pointer (some ⟨b4, 0, none⟩)) (f := 42) rfl (ev42.trans h3) (fun w => Try.call42 _ w) ?_
      refine (thr42 (X := [b11, b10, b9, b8, b7, b2]) k_quorum k_arecusal b4 hX' g.s0.c4 g.s0.l4 g.bs).mono ?_
      rintro e w2 ⟨v, rfl, hf, hbel, -⟩
      exact ⟨v, rfl, v, rfl, hbel, hf 3⟩
    · refine op_load (x := .tmp 5) rfl ev5 (run_load1 g.s0.c5) ?_
      exact ⟨_, rfl, Below.refl _ _, rfl⟩
    · have h5 : vals 5 = .func (.func 42) #[] #[.pointer (some ⟨b4, 0, none⟩)] := hd ⟨5, .data⟩ (by simp) rfl
      refine op_closure (x := .tmp 44) (s1 := .string k_pass) (s2 := .string k_arecusal) (p := .pointer (some ⟨b4, 0, none⟩)) (f := 42) rfl (ev44.trans h5) (fun w => Try.call42 _ w) ?_
      refine (thr42 (X := [b11, b10, b9, b8, b7, b2]) k_pass k_arecusal b4 hX' g.s0.c4 g.s0.l4 g.bs).mono ?_
      rintro e w2 ⟨v, rfl, hf, hbel, -⟩
      exact ⟨v, rfl, v, rfl, hbel, hf 3⟩
    · have h4 : FormIs [b11, b10, b9, b8, b7, b2] 4 w' (vals 4) (thrT 3 k_quorum k_arecusal bbL) := hd ⟨4, .data⟩ (by simp) rfl
      have h6 : FormIs [b11, b10, b9, b8, b7, b2] 4 w' (vals 6) (thrT 3 k_pass k_arecusal bbL) := hd ⟨6, .data⟩ (by simp) rfl
      obtain ⟨sa4, sn4, sd4, sa5, sn5, sd5, sa6, sn6, sd6, sa7, sn7, sd7, sa8, sn8, sd8, sa9, sn9, sd9, sa10, sn10, sd10, e4, -⟩ := h4.open
      obtain ⟨ta4, tn4, td4, ta5, tn5, td5, ta6, tn6, td6, ta7, tn7, td7, ta8, tn8, td8, ta9, tn9, td9, ta10, tn10, td10, e6, -⟩ := h6.open
      rw [e4] at h4
      rw [e6] at h6
      refine op_buildSlice (vs := #[(0, .agg #[.string (FNode.name (thrT 3 k_quorum k_arecusal bbL)), .bool (FNode.array (thrT 3 k_quorum k_arecusal bbL)), .string (FNode.needed (thrT 3 k_quorum k_arecusal bbL)), .string (FNode.left (thrT 3 k_quorum k_arecusal bbL)), .slice sa4 sn4 sd4, .slice sa5 sn5 sd5, .slice sa6 sn6 sd6, .slice sa7 sn7 sd7, .slice sa8 sn8 sd8, .slice sa9 sn9 sd9, .slice sa10 sn10 sd10]), (1, .agg #[.string (FNode.name (thrT 3 k_pass k_arecusal bbL)), .bool (FNode.array (thrT 3 k_pass k_arecusal bbL)), .string (FNode.needed (thrT 3 k_pass k_arecusal bbL)), .string (FNode.left (thrT 3 k_pass k_arecusal bbL)), .slice ta4 tn4 td4, .slice ta5 tn5 td5, .slice ta6 tn6 td6, .slice ta7 tn7 td7, .slice ta8 tn8 td8, .slice ta9 tn9 td9, .slice ta10 tn10 td10])]) rfl ?_ (run_forms2 _ _ _ _ _ _ _ _ _ _ _ _ _ _ _ _ _ _ _ _ _ _ _ ) ?_
      · simp only [List.map_toArray, List.map_cons, List.map_nil, eval_const, ev43, ev45, e4, e6]
      · exact ⟨_, rfl, (Below.refl _ _).alloc (Nat.le_refl _) _, formsLit [_, _] (blk_top _ _ rfl) (not_mem_of_lt hX' (Nat.le_refl _)) rfl (by decide) rfl rfl rfl (two_forms rfl (h4.keep ((Keep.refl _ _).alloc _)) rfl (h6.keep ((Keep.refl _ _).alloc _)))⟩
    · have h0 : Strs [b11, b10, b9, b8, b7, b2] w' (vals 0) [k_refer_below, k_article] := hd ⟨0, .data⟩ (by simp) rfl
      have h2 : Counts [b11, b10, b9, b8, b7, b2] w' (vals 2) [(k_refer_below, k_directors, 0)] := hd ⟨2, .data⟩ (by simp) rfl
      have h7 : Forms (FormIs [b11, b10, b9, b8, b7, b2] 4 w') [b11, b10, b9, b8, b7, b2] w' (vals 7) [(thrT 3 k_quorum k_arecusal bbL), (thrT 3 k_pass k_arecusal bbL)] := hd ⟨7, .data⟩ (by simp) rfl
      obtain ⟨a, c, e0, -⟩ := Own.form h0
      obtain ⟨a1, d1, e2, -⟩ := Own.form h2
      obtain ⟨cs', o7, r7⟩ := id h7
      obtain ⟨a', c', e7, -⟩ := Own.form o7
      rw [e0] at h0
      rw [e2] at h2
      rw [e7] at h7
      refine op_build (vs := #[(0, .string k_recusal), (3, .string k_refuse), (4, .slice a 2 c), (8, .slice a1 1 d1), (10, .slice a' 2 c')]) rfl ?_ (run_build_rec _ _ _ _ _ _ _ _ _ _ _ _) ?_
      · simp only [List.map_toArray, List.map_cons, List.map_nil, eval_const, ev39, ev41, ev46, e0, e2, e7]; rfl
      · exact ⟨_, rfl, Below.refl _ _, _, _, _, _, _, _, _, rfl, h0, Own.nil _ _ _ _, noGroups _ _, Own.nil _ _ _ _, h2, Own.nil _ _ _ _, h7⟩
  case hend =>
    intro vals w' hb hd
    have h8 : FormIs [b11, b10, b9, b8, b7, b2] 5 w' (vals 8) bdRecusalT := hd 8 (by omega)
    have g := h.grow hb
    obtain ⟨sa4, sn4, sd4, sa5, sn5, sd5, sa6, sn6, sd6, sa7, sn7, sd7, sa8, sn8, sd8, sa9, sn9, sd9, sa10, sn10, sd10, e8, -⟩ := h8.open
    rw [e8] at h8
    obtain ⟨cs8, hv8, hf8⟩ := g.v8
    obtain ⟨pa4, pn4, pd4, pa5, pn5, pd5, pa6, pn6, pd6, pa7, pn7, pd7, pa8, pn8, pd8, pa9, pn9, pd9, pa10, pn10, pd10, e8', -⟩ := hf8.open
    cases e8'
    have HV : Hid (VarB w' b8 _) := hv8
    obtain ⟨l8, c8, f8⟩ := hv8
    have HQ : Hid (∀ (u0 u1 u4 u12 u13 u14 u15 u16 u17 u18 u19 u20 u21 u22 u23 u24 u25 u26 u27 u28 u29 u30 u31 u32 u33 u34 u35 u36 u37 u38 u39 u40 u41 u42 u43 u44 u45 u46 u47 u48 u49 u50 u51 u52 u53 u54 u55 u56 u57 u58 u59 u60 u61 u62 u63 u64 u65 u66 u67 u68 u69 u70 u71 u72 u73 u74 u75 u76 u77 u78 u79 u80 u81 u82 u83 u84 u85 u86 u87 u88 u89 u90 u91 u92 u93 u94 u95 u96 u97 u98 u99 u100 u101 u102 u103 u104 u105 u106 u107 u108 u109 u110 u111 u112 u113 u114 u115 u116 u117 u118 u119 u120 u121 : Value) (w' : World), S1 w0 w' b2 b4 b5 b7 b8 b9 b10 b11 bbL sb t7 bdRecusalT t9 t10 t11 → Qx .normal ⟨#[u0, u1, .pointer (some ⟨b2, 0, none⟩), .bool true, u4, .pointer (some ⟨b5, 0, none⟩), .func (.func 43) #[] #[.pointer (some ⟨b5, 0, none⟩)], .pointer (some ⟨b7, 0, none⟩), .pointer (some ⟨b8, 0, none⟩), .pointer (some ⟨b9, 0, none⟩), .pointer (some ⟨b10, 0, none⟩), .pointer (some ⟨b11, 0, none⟩), u12, u13, u14, u15, u16, u17, u18, u19, u20, u21, u22, u23, u24, u25, u26, u27, u28, u29, u30, u31, u32, u33, u34, u35, u36, u37, u38, u39, u40, u41, u42, u43, u44, u45, u46, u47, u48, u49, u50, u51, u52, u53, u54, u55, u56, u57, u58, u59, u60, u61, u62, u63, u64, u65, u66, u67, u68, u69, u70, u71, u72, u73, u74, u75, u76, u77, u78, u79, u80, u81, u82, u83, u84, u85, u86, u87, u88, u89, u90, u91, u92, u93, u94, u95, u96, u97, u98, u99, u100, u101, u102, u103, u104, u105, u106, u107, u108, u109, u110, u111, u112, u113, u114, u115, u116, u117, u118, u119, u120, u121], []⟩ w') := hQ
    clear hQ
    have G : Hid (S1 w0 w' b2 b4 b5 b7 b8 b9 b10 b11 bbL sb t7 t8 t9 t10 t11) := g
    clear g h
    have H8 : Hid (FormIs [b11, b10, b9, b8, b7, b2] 5 w' _ bdRecusalT) := h8
    clear h8 hd hf8
    subst ha0
    dsimp only [List.drop]
    simp only [fill, Act.put, List.setIfInBounds_toArray, List.set_cons_succ, List.set_cons_zero, Nat.zero_add, Nat.reduceAdd, e8]
    clear e8
    go_wp2
    refine HQ.out _ _ _ _ _ _ _ _ _ _ _ _ _ _ _ _ _ _ _ _ _ _ _ _ _ _ _ _ _ _ _ _ _ _ _ _ _ _ _ _ _ _ _ _ _ _ _ _ _ _ _ _ _ _ _ _ _ _ _ _ _ _ _ _ _ _ _ _ _ _ _ _ _ _ _ _ _ _ _ _ _ _ _ _ _ _ _ _ _ _ _ _ _ _ _ _ _ _ _ _ _ _ _ _ _ _ _ _ _ _ _ _ _  _ ?_
    have hlow := G.out.ord
    refine G.out.put8 ?_ ?_ ⟨_, HV.out.set11, H8.out.keep ?_⟩
    · iterate 11 (refine Below.setCell ?_ (by show w0.heap.size ≤ b8; omega) _)
      exact G.out.s0.below
    · iterate 11 (refine Keep.setCell ?_ _ (by simp) _)
      exact Keep.refl _ _
    · iterate 11 (refine Keep.setCell ?_ _ (by simp) _)
      exact Keep.refl _ _
end Go.Proofs.Qxb6601023a
