/-
  OWN WORK. rulebookForm (20) at a board: the tables of [notice.change].
-/
import Derived.Test.Qxb6601023aBoard
namespace Go.Proofs.Qxb6601023a
open Go.RowKit Go.Flow
set_option linter.unusedVariables false
set_option linter.unusedSimpArgs false

theorem run_load1 {w : World} {b : Nat} {a : Array Value} {f : FuncId} (h : w.cell? ⟨b, 0, none⟩ = some (.func (.func f) #[] a)) :
    (Instr.loadAt 55 (.pointer (some ⟨b, 0, none⟩))).run Try.prog w = .ok (.func (.func f) #[] a) w := by
  simp [go_sem, h]
theorem run_build_tab (nm lo : ByteArray) (a : Option Addr) (n c : Nat) (a' : Option Addr) (n' c' : Nat) (w : World) : (Instr.build 30 #[(0, .string nm), (3, .string lo), (4, .slice a n c), (10, .slice a' n' c')]).run Try.prog w =
    .ok (.agg #[.string nm, .bool false, .string k_empty, .string lo, .slice a n c, .slice none 0 0, .slice none 0 0, .slice none 0 0, .slice none 0 0, .slice none 0 0, .slice a' n' c']) w := by kernel_rfl

/-- What each operation of the region yields. -/
def phi18 (X : List Nat) (f5 : Value) : Nat → Value → World → Prop
  | 0, v, _ => v = f5
  | 1, v, w => FormIs X 3 w v (thrT 2 k_consent k_empty bbL)
  | 2, v, w => Strs X w v [k_article]
  | 3, v, _ => v = f5
  | 4, v, w => FormIs X 2 w v (thrT 1 k_consent k_anotice bbL)
  | 5, v, w => Forms (FormIs X 2 w) X w v [(thrT 1 k_consent k_anotice bbL)]
  | 6, v, w => FormIs X 3 w v extraordinaryT
  | 7, v, w => Forms (FormIs X 3 w) X w v [(thrT 2 k_consent k_empty bbL), extraordinaryT]
  | _, _, _ => False

theorem phi18_keep {X : List Nat} {f5 : Value} (i : Nat) (v : Value) (w1 w2 : World) (hi : i < 8) (h : phi18 X f5 i v w1) (hb : Below w1.heap.size w1 w2) : phi18 X f5 i v w2 := by
  have k : Keep X w1 w2 := Keep.of_below hb
  match i, h with
  | 0, h => exact h
  | 1, h => exact FormIs.keep h k
  | 2, h => exact Strs.keep h k
  | 3, h => exact h
  | 4, h => exact FormIs.keep h k
  | 5, h => exact Forms.keep h k fun _ _ h => FormIs.keep h k
  | 6, h => exact FormIs.keep h k
  | 7, h => exact Forms.keep h k fun _ _ h => FormIs.keep h k

set_option maxRecDepth 100000 in
set_option maxHeartbeats 1000000 in
theorem bR18 {w0 w : World} {b2 b4 b5 b7 b8 b9 b10 b11 : Nat} {sb : Value} {t7 t8 t9 t10 : FTree 5} {t11 : FTree 4} {u0 u1 u4 u12 u13 u14 u15 u16 u17 u18 u19 u20 u21 u22 u23 u24 u25 u26 u27 u28 u29 u30 u31 u32 u33 u34 u35 u36 u37 u38 u39 u40 u41 u42 u43 u44 u45 u46 u47 u48 u49 u50 u51 u52 u53 u54 u55 u56 u57 u58 u59 u60 u61 u62 u63 u64 u65 u66 u67 u68 u69 u70 u71 u72 u73 u74 u75 u76 u77 u78 u79 u80 u81 u82 u83 u84 u85 u86 u87 u88 u89 u90 u91 u92 u93 u94 u95 u96 u97 u98 u99 u100 u101 u102 u103 u104 u105 u106 u107 u108 u109 u110 u111 u112 u113 u114 u115 u116 u117 u118 u119 u120 u121 : Value} {Qx : Exit → Act → World → Prop} {a0 : Act} (ha0 : a0 = ⟨#[u0, u1, .pointer (some ⟨b2, 0, none⟩), .bool true, u4, .pointer (some ⟨b5, 0, none⟩), .func (.func 43) #[] #[.pointer (some ⟨b5, 0, none⟩)], .pointer (some ⟨b7, 0, none⟩), .pointer (some ⟨b8, 0, none⟩), .pointer (some ⟨b9, 0, none⟩), .pointer (some ⟨b10, 0, none⟩), .pointer (some ⟨b11, 0, none⟩), u12, u13, u14, u15, u16, u17, u18, u19, u20, u21, u22, u23, u24, u25, u26, u27, u28, u29, u30, u31, u32, u33, u34, u35, u36, u37, u38, u39, u40, u41, u42, u43, u44, u45, u46, u47, u48, u49, u50, u51, u52, u53, u54, u55, u56, u57, u58, u59, u60, u61, u62, u63, u64, u65, u66, u67, u68, u69, u70, u71, u72, u73, u74, u75, u76, u77, u78, u79, u80, u81, u82, u83, u84, u85, u86, u87, u88, u89, u90, u91, u92, u93, u94, u95, u96, u97, u98, u99, u100, u101, u102, u103, u104, u105, u106, u107, u108, u109, u110, u111, u112, u113, u114, u115, u116, u117, u118, u119, u120, u121], []⟩) (h : S1 w0 w b2 b4 b5 b7 b8 b9 b10 b11 bbL sb t7 t8 t9 t10 (changeT []))
    (hQ : ∀ (u0 u1 u4 u12 u13 u14 u15 u16 u17 u18 u19 u20 u21 u22 u23 u24 u25 u26 u27 u28 u29 u30 u31 u32 u33 u34 u35 u36 u37 u38 u39 u40 u41 u42 u43 u44 u45 u46 u47 u48 u49 u50 u51 u52 u53 u54 u55 u56 u57 u58 u59 u60 u61 u62 u63 u64 u65 u66 u67 u68 u69 u70 u71 u72 u73 u74 u75 u76 u77 u78 u79 u80 u81 u82 u83 u84 u85 u86 u87 u88 u89 u90 u91 u92 u93 u94 u95 u96 u97 u98 u99 u100 u101 u102 u103 u104 u105 u106 u107 u108 u109 u110 u111 u112 u113 u114 u115 u116 u117 u118 u119 u120 u121 : Value) (w' : World), S1 w0 w' b2 b4 b5 b7 b8 b9 b10 b11 bbL sb t7 t8 t9 t10 (changeT [(thrT 2 k_consent k_empty bbL), extraordinaryT]) → Qx .normal ⟨#[u0, u1, .pointer (some ⟨b2, 0, none⟩), .bool true, u4, .pointer (some ⟨b5, 0, none⟩), .func (.func 43) #[] #[.pointer (some ⟨b5, 0, none⟩)], .pointer (some ⟨b7, 0, none⟩), .pointer (some ⟨b8, 0, none⟩), .pointer (some ⟨b9, 0, none⟩), .pointer (some ⟨b10, 0, none⟩), .pointer (some ⟨b11, 0, none⟩), u12, u13, u14, u15, u16, u17, u18, u19, u20, u21, u22, u23, u24, u25, u26, u27, u28, u29, u30, u31, u32, u33, u34, u35, u36, u37, u38, u39, u40, u41, u42, u43, u44, u45, u46, u47, u48, u49, u50, u51, u52, u53, u54, u55, u56, u57, u58, u59, u60, u61, u62, u63, u64, u65, u66, u67, u68, u69, u70, u71, u72, u73, u74, u75, u76, u77, u78, u79, u80, u81, u82, u83, u84, u85, u86, u87, u88, u89, u90, u91, u92, u93, u94, u95, u96, u97, u98, u99, u100, u101, u102, u103, u104, u105, u106, u107, u108, u109, u110, u111, u112, u113, u114, u115, u116, u117, u118, u119, u120, u121], []⟩ w') :
    Code.wp Try.prog (dropSeq 5 (thenOf (headOf (dropSeq 11 (Try.f20.body.getD .skip))))) Qx a0 w := by
  conv => arg 2; whnf
  refine wp_region_flow2 8 [59, 60, 61, 62, 63, 64, 65, 66] (phi18 [b11, b10, b9, b8, b7, b2] (.func (.func 42) #[] #[.pointer (some ⟨b4, 0, none⟩)])) (by kernel_rfl) (by kernel_rfl) phi18_keep ?hop ?hend
  case hop =>
    intro i o hi ho vals F w' hF hb hd
    have hk : ∀ Y, Keep Y w w' := fun Y => Keep.of_below hb
    have g := h.grow hb
    have hX' := g.lt
    have hs0 : a0.tmps.size = 122 := by subst ha0; rfl
    have ev5 : F.eval (.tmp 5) = .pointer (some ⟨b5, 0, none⟩) := by
      rw [hF, fill_out _ _ _ _ _ (by decide)]
      subst ha0
      rfl
    have ev59 : F.eval (.tmp 59) = vals 0 := (congrArg (fun f => Act.eval f (.tmp 59)) hF).trans ((fill_in _ 0 0 vals a0 59 (by decide) rfl (by rw [hs0]; decide)).trans (congrArg vals (Nat.zero_add _)))
    have ev60 : F.eval (.tmp 60) = vals 1 := (congrArg (fun f => Act.eval f (.tmp 60)) hF).trans ((fill_in _ 0 1 vals a0 60 (by decide) rfl (by rw [hs0]; decide)).trans (congrArg vals (Nat.zero_add _)))
    have ev61 : F.eval (.tmp 61) = vals 2 := (congrArg (fun f => Act.eval f (.tmp 61)) hF).trans ((fill_in _ 0 2 vals a0 61 (by decide) rfl (by rw [hs0]; decide)).trans (congrArg vals (Nat.zero_add _)))
    have ev62 : F.eval (.tmp 62) = vals 3 := (congrArg (fun f => Act.eval f (.tmp 62)) hF).trans ((fill_in _ 0 3 vals a0 62 (by decide) rfl (by rw [hs0]; decide)).trans (congrArg vals (Nat.zero_add _)))
    have ev63 : F.eval (.tmp 63) = vals 4 := (congrArg (fun f => Act.eval f (.tmp 63)) hF).trans ((fill_in _ 0 4 vals a0 63 (by decide) rfl (by rw [hs0]; decide)).trans (congrArg vals (Nat.zero_add _)))
    have ev64 : F.eval (.tmp 64) = vals 5 := (congrArg (fun f => Act.eval f (.tmp 64)) hF).trans ((fill_in _ 0 5 vals a0 64 (by decide) rfl (by rw [hs0]; decide)).trans (congrArg vals (Nat.zero_add _)))
    have ev65 : F.eval (.tmp 65) = vals 6 := (congrArg (fun f => Act.eval f (.tmp 65)) hF).trans ((fill_in _ 0 6 vals a0 65 (by decide) rfl (by rw [hs0]; decide)).trans (congrArg vals (Nat.zero_add _)))
    have ev66 : F.eval (.tmp 66) = vals 7 := (congrArg (fun f => Act.eval f (.tmp 66)) hF).trans ((fill_in _ 0 7 vals a0 66 (by decide) rfl (by rw [hs0]; decide)).trans (congrArg vals (Nat.zero_add _)))
    clear hF
    clear hQ ha0
    have hi' : i = 0 ∨ i = 1 ∨ i = 2 ∨ i = 3 ∨ i = 4 ∨ i = 5 ∨ i = 6 ∨ i = 7 := by omega
    rcases hi' with rfl | rfl | rfl | rfl | rfl | rfl | rfl | rfl
    all_goals simp only [List.getElem?_cons_zero, List.getElem?_cons_succ, Option.some.injEq] at ho
    all_goals subst ho
    · refine op_load (x := .tmp 5) rfl ev5 (run_load1 g.s0.c5) ?_
      exact ⟨_, rfl, Below.refl _ _, rfl⟩
    · have h0 : vals 0 = .func (.func 42) #[] #[.pointer (some ⟨b4, 0, none⟩)] := hd ⟨0, .data⟩ (by simp) rfl
      refine op_closure (x := .tmp 59) (s1 := .string k_consent) (s2 := .string k_empty) (p := .pointer (some ⟨b4, 0, none⟩)) (f := 42) rfl (ev59.trans h0) (fun w => Try.call42 _ w) ?_
      refine (thr42 (X := [b11, b10, b9, b8, b7, b2]) k_consent k_empty b4 hX' g.s0.c4 g.s0.l4 g.bs).mono ?_
      rintro e w2 ⟨v, rfl, hf, hbel, -⟩
      exact ⟨v, rfl, v, rfl, hbel, hf 2⟩
    · refine op_buildSlice (vs := #[(0, .string k_article)]) rfl (by simp only [List.map_toArray, List.map_cons, List.map_nil, eval_const]) (run_strs1 _ _) ?_
      exact ⟨_, rfl, (Below.refl _ _).alloc (Nat.le_refl _) _, strsLit (blk_top _ _ rfl) (not_mem_of_lt hX' (Nat.le_refl _)) rfl (by decide) rfl rfl⟩
    · refine op_load (x := .tmp 5) rfl ev5 (run_load1 g.s0.c5) ?_
      exact ⟨_, rfl, Below.refl _ _, rfl⟩
    · have h3 : vals 3 = .func (.func 42) #[] #[.pointer (some ⟨b4, 0, none⟩)] := hd ⟨3, .data⟩ (by simp) rfl
      refine op_closure (x := .tmp 62) (s1 := .string k_consent) (s2 := .string k_anotice) (p := .pointer (some ⟨b4, 0, none⟩)) (f := 42) rfl (ev62.trans h3) (fun w => Try.call42 _ w) ?_
      refine (thr42 (X := [b11, b10, b9, b8, b7, b2]) k_consent k_anotice b4 hX' g.s0.c4 g.s0.l4 g.bs).mono ?_
      rintro e w2 ⟨v, rfl, hf, hbel, -⟩
      exact ⟨v, rfl, v, rfl, hbel, hf 1⟩
    · have h4 : FormIs [b11, b10, b9, b8, b7, b2] 2 w' (vals 4) (thrT 1 k_consent k_anotice bbL) := hd ⟨4, .data⟩ (by simp) rfl
      obtain ⟨sa4, sn4, sd4, sa5, sn5, sd5, sa6, sn6, sd6, sa7, sn7, sd7, sa8, sn8, sd8, sa9, sn9, sd9, sa10, sn10, sd10, e4, -⟩ := h4.open
      rw [e4] at h4
      refine op_buildSlice (vs := #[(0, .agg #[.string (FNode.name (thrT 1 k_consent k_anotice bbL)), .bool (FNode.array (thrT 1 k_consent k_anotice bbL)), .string (FNode.needed (thrT 1 k_consent k_anotice bbL)), .string (FNode.left (thrT 1 k_consent k_anotice bbL)), .slice sa4 sn4 sd4, .slice sa5 sn5 sd5, .slice sa6 sn6 sd6, .slice sa7 sn7 sd7, .slice sa8 sn8 sd8, .slice sa9 sn9 sd9, .slice sa10 sn10 sd10])]) rfl ?_ (run_forms1 _ _ _ _ _ _ _ _ _ _ _ _ ) ?_
      · simp only [List.map_toArray, List.map_cons, List.map_nil, eval_const, ev63, e4]
      · exact ⟨_, rfl, (Below.refl _ _).alloc (Nat.le_refl _) _, formsLit [_] (blk_top _ _ rfl) (not_mem_of_lt hX' (Nat.le_refl _)) rfl (by decide) rfl rfl rfl (one_form rfl (h4.keep ((Keep.refl _ _).alloc _)))⟩
    · have h2 : Strs [b11, b10, b9, b8, b7, b2] w' (vals 2) [k_article] := hd ⟨2, .data⟩ (by simp) rfl
      have h5 : Forms (FormIs [b11, b10, b9, b8, b7, b2] 2 w') [b11, b10, b9, b8, b7, b2] w' (vals 5) [(thrT 1 k_consent k_anotice bbL)] := hd ⟨5, .data⟩ (by simp) rfl
      obtain ⟨a, c, e2, -⟩ := Own.form h2
      obtain ⟨cs', o5, r5⟩ := id h5
      obtain ⟨a', c', e5, -⟩ := Own.form o5
      rw [e2] at h2
      rw [e5] at h5
      refine op_build (vs := #[(0, .string k_extraordinary), (3, .string k_no_rule), (4, .slice a 1 c), (10, .slice a' 1 c')]) rfl ?_ (run_build_tab _ _ _ _ _ _ _ _ _) ?_
      · simp only [List.map_toArray, List.map_cons, List.map_nil, eval_const, ev61, ev64, e2, e5]; rfl
      · exact ⟨_, rfl, Below.refl _ _, _, _, _, _, _, _, _, rfl, h2, Own.nil _ _ _ _, noGroups _ _, Own.nil _ _ _ _, Own.nil _ _ _ _, Own.nil _ _ _ _, h5⟩
    · have h1 : FormIs [b11, b10, b9, b8, b7, b2] 3 w' (vals 1) (thrT 2 k_consent k_empty bbL) := hd ⟨1, .data⟩ (by simp) rfl
      have h6 : FormIs [b11, b10, b9, b8, b7, b2] 3 w' (vals 6) extraordinaryT := hd ⟨6, .data⟩ (by simp) rfl
      obtain ⟨sa4, sn4, sd4, sa5, sn5, sd5, sa6, sn6, sd6, sa7, sn7, sd7, sa8, sn8, sd8, sa9, sn9, sd9, sa10, sn10, sd10, e1, -⟩ := h1.open
      obtain ⟨ta4, tn4, td4, ta5, tn5, td5, ta6, tn6, td6, ta7, tn7, td7, ta8, tn8, td8, ta9, tn9, td9, ta10, tn10, td10, e6, -⟩ := h6.open
      rw [e1] at h1
      rw [e6] at h6
      refine op_buildSlice (vs := #[(0, .agg #[.string (FNode.name (thrT 2 k_consent k_empty bbL)), .bool (FNode.array (thrT 2 k_consent k_empty bbL)), .string (FNode.needed (thrT 2 k_consent k_empty bbL)), .string (FNode.left (thrT 2 k_consent k_empty bbL)), .slice sa4 sn4 sd4, .slice sa5 sn5 sd5, .slice sa6 sn6 sd6, .slice sa7 sn7 sd7, .slice sa8 sn8 sd8, .slice sa9 sn9 sd9, .slice sa10 sn10 sd10]), (1, .agg #[.string (FNode.name extraordinaryT), .bool (FNode.array extraordinaryT), .string (FNode.needed extraordinaryT), .string (FNode.left extraordinaryT), .slice ta4 tn4 td4, .slice ta5 tn5 td5, .slice ta6 tn6 td6, .slice ta7 tn7 td7, .slice ta8 tn8 td8, .slice ta9 tn9 td9, .slice ta10 tn10 td10])]) rfl ?_ (run_forms2 _ _ _ _ _ _ _ _ _ _ _ _ _ _ _ _ _ _ _ _ _ _ _ ) ?_
      · simp only [List.map_toArray, List.map_cons, List.map_nil, eval_const, ev60, ev65, e1, e6]
      · exact ⟨_, rfl, (Below.refl _ _).alloc (Nat.le_refl _) _, formsLit [_, _] (blk_top _ _ rfl) (not_mem_of_lt hX' (Nat.le_refl _)) rfl (by decide) rfl rfl rfl (two_forms rfl (h1.keep ((Keep.refl _ _).alloc _)) rfl (h6.keep ((Keep.refl _ _).alloc _)))⟩
  case hend =>
    intro vals w' hb hd
    have h7 : Forms (FormIs [b11, b10, b9, b8, b7, b2] 3 w') [b11, b10, b9, b8, b7, b2] w' (vals 7) [(thrT 2 k_consent k_empty bbL), extraordinaryT] := hd 7 (by omega)
    have g := h.grow hb
    obtain ⟨cs', o7, r7⟩ := id h7
    obtain ⟨a', c', e7, -⟩ := Own.form o7
    rw [e7] at h7
    obtain ⟨cs11, hv11, hf11⟩ := g.v11
    obtain ⟨pa4, pn4, pd4, pa5, pn5, pd5, pa6, pn6, pd6, pa7, pn7, pd7, pa8, pn8, pd8, pa9, pn9, pd9, pa10, pn10, pd10, e11, i1, i2, i3, i4, i5, i6, i7⟩ := hf11.open
    cases e11
    have HV : Hid (VarB w' b11 _) := hv11
    obtain ⟨l11, c11, f11⟩ := hv11
    have HQ : Hid (∀ (u0 u1 u4 u12 u13 u14 u15 u16 u17 u18 u19 u20 u21 u22 u23 u24 u25 u26 u27 u28 u29 u30 u31 u32 u33 u34 u35 u36 u37 u38 u39 u40 u41 u42 u43 u44 u45 u46 u47 u48 u49 u50 u51 u52 u53 u54 u55 u56 u57 u58 u59 u60 u61 u62 u63 u64 u65 u66 u67 u68 u69 u70 u71 u72 u73 u74 u75 u76 u77 u78 u79 u80 u81 u82 u83 u84 u85 u86 u87 u88 u89 u90 u91 u92 u93 u94 u95 u96 u97 u98 u99 u100 u101 u102 u103 u104 u105 u106 u107 u108 u109 u110 u111 u112 u113 u114 u115 u116 u117 u118 u119 u120 u121 : Value) (w' : World), S1 w0 w' b2 b4 b5 b7 b8 b9 b10 b11 bbL sb t7 t8 t9 t10 (changeT [(thrT 2 k_consent k_empty bbL), extraordinaryT]) → Qx .normal ⟨#[u0, u1, .pointer (some ⟨b2, 0, none⟩), .bool true, u4, .pointer (some ⟨b5, 0, none⟩), .func (.func 43) #[] #[.pointer (some ⟨b5, 0, none⟩)], .pointer (some ⟨b7, 0, none⟩), .pointer (some ⟨b8, 0, none⟩), .pointer (some ⟨b9, 0, none⟩), .pointer (some ⟨b10, 0, none⟩), .pointer (some ⟨b11, 0, none⟩), u12, u13, u14, u15, u16, u17, u18, u19, u20, u21, u22, u23, u24, u25, u26, u27, u28, u29, u30, u31, u32, u33, u34, u35, u36, u37, u38, u39, u40, u41, u42, u43, u44, u45, u46, u47, u48, u49, u50, u51, u52, u53, u54, u55, u56, u57, u58, u59, u60, u61, u62, u63, u64, u65, u66, u67, u68, u69, u70, u71, u72, u73, u74, u75, u76, u77, u78, u79, u80, u81, u82, u83, u84, u85, u86, u87, u88, u89, u90, u91, u92, u93, u94, u95, u96, u97, u98, u99, u100, u101, u102, u103, u104, u105, u106, u107, u108, u109, u110, u111, u112, u113, u114, u115, u116, u117, u118, u119, u120, u121], []⟩ w') := hQ
    clear hQ
    have G : Hid (S1 w0 w' b2 b4 b5 b7 b8 b9 b10 b11 bbL sb t7 t8 t9 t10 (changeT [])) := g
    clear g h
    have HI := And.intro i1 (And.intro i2 (And.intro i3 (And.intro i4 (And.intro i5 (And.intro i6 h7)))))
    clear i1 i2 i3 i4 i5 i6 i7 h7 o7 r7 hd hf11
    subst ha0
    dsimp only [List.drop]
    simp only [fill, Act.put, List.setIfInBounds_toArray, List.set_cons_succ, List.set_cons_zero, Nat.zero_add, Nat.reduceAdd, e7]
    clear e7
    go_wp2
    refine HQ.out _ _ _ _ _ _ _ _ _ _ _ _ _ _ _ _ _ _ _ _ _ _ _ _ _ _ _ _ _ _ _ _ _ _ _ _ _ _ _ _ _ _ _ _ _ _ _ _ _ _ _ _ _ _ _ _ _ _ _ _ _ _ _ _ _ _ _ _ _ _ _ _ _ _ _ _ _ _ _ _ _ _ _ _ _ _ _ _ _ _ _ _ _ _ _ _ _ _ _ _ _ _ _ _ _ _ _ _ _ _ _ _ _  _ ?_
    obtain ⟨i1, i2, i3, i4, i5, i6, h7⟩ := HI
    have hlow := G.out.ord
    have kp : ∀ v, Keep [b11] w' (w'.setCell ⟨b11, 10, none⟩ v) := fun v => (Keep.refl _ _).setCell _ (by simp) _
    have kX : ∀ v, Keep [b11, b10, b9, b8, b7, b2] w' (w'.setCell ⟨b11, 10, none⟩ v) := fun v => (kp v).mono (by simp)
    refine G.out.put11 (G.out.s0.below.setCell (by show w0.heap.size ≤ b11; omega) _) (kp _) ⟨_, HV.out.set (j := 10) _ (by simp), _, _, _, _, _, _, _, rfl, i1.keep (kX _), i2.keep (kX _), i3.keep (kX _), i4.keep (kX _), i5.keep (kX _), i6.keep (kX _), ?_⟩
    exact h7.keep (kX _) fun _ _ h => h.keep (kX _)
end Go.Proofs.Qxb6601023a
