/-
  OWN WORK. rulebookForm (20) at a board: the whole 'if board { .. }'.
-/
import Derived.Test.Qxb6601023aBoardV
namespace Go.Proofs.Qxb6601023a
open Go.RowKit Go.Flow
set_option linter.unusedVariables false
set_option linter.unusedSimpArgs false

set_option maxRecDepth 100000 in
set_option maxHeartbeats 1000000 in
theorem tail11 {w0 w : World} {b2 b4 b5 b7 b8 b9 b10 b11 : Nat} {sb : Value} {u0 u1 u4 u12 u13 u14 u15 u16 u17 u18 u19 u20 u21 u22 u23 u24 u25 u26 u27 u28 u29 u30 u31 u32 u33 u34 u35 u36 u37 u38 u39 u40 u41 u42 u43 u44 u45 u46 u47 u48 u49 u50 u51 u52 u53 u54 u55 u56 u57 u58 u59 u60 u61 u62 u63 u64 u65 u66 u67 u68 u69 u70 u71 u72 u73 u74 u75 u76 u77 u78 u79 u80 u81 u82 u83 u84 u85 u86 u87 u88 u89 u90 u91 u92 u93 u94 u95 u96 u97 u98 u99 u100 u101 u102 u103 u104 u105 u106 u107 u108 u109 u110 u111 u112 u113 u114 u115 u116 u117 u118 u119 u120 u121 : Value} (h : S1 w0 w b2 b4 b5 b7 b8 b9 b10 b11 bbL sb (ruleT 4 false k_quorum k_empty bbL) (keysT 4 k_recusal k_refuse [k_article]) (keysT 4 k_ballot k_refuse [k_first_vote_counts, k_first_vote_article, k_uncast, k_uncast_article, k_treasury_article]) (noticeT [k_annual_days, k_extraordinary_days, k_day_count, k_article] [(k_annual_days, k_days, 0), (k_extraordinary_days, k_days, 0)] []) (changeT [])) :
    Code.wp Try.prog (dropSeq 11 (Try.f20.body.getD .skip)) (bodyPost Try.prog Try.f20 (Post20 w0 bdTree)) ⟨#[u0, u1, .pointer (some ⟨b2, 0, none⟩), .bool true, u4, .pointer (some ⟨b5, 0, none⟩), .func (.func 43) #[] #[.pointer (some ⟨b5, 0, none⟩)], .pointer (some ⟨b7, 0, none⟩), .pointer (some ⟨b8, 0, none⟩), .pointer (some ⟨b9, 0, none⟩), .pointer (some ⟨b10, 0, none⟩), .pointer (some ⟨b11, 0, none⟩), u12, u13, u14, u15, u16, u17, u18, u19, u20, u21, u22, u23, u24, u25, u26, u27, u28, u29, u30, u31, u32, u33, u34, u35, u36, u37, u38, u39, u40, u41, u42, u43, u44, u45, u46, u47, u48, u49, u50, u51, u52, u53, u54, u55, u56, u57, u58, u59, u60, u61, u62, u63, u64, u65, u66, u67, u68, u69, u70, u71, u72, u73, u74, u75, u76, u77, u78, u79, u80, u81, u82, u83, u84, u85, u86, u87, u88, u89, u90, u91, u92, u93, u94, u95, u96, u97, u98, u99, u100, u101, u102, u103, u104, u105, u106, u107, u108, u109, u110, u111, u112, u113, u114, u115, u116, u117, u118, u119, u120, u121], []⟩ w := by
  rw [show bdTree = topT ([(ruleT 4 false k_quorum k_aboards bbL), ruleT 4 false k_pass k_every bbL, bdRecusalT] ++ bdProxy true ++ five bdBallotT (noticeT [k_regular_days, k_extraordinary_days, k_urgent_oral, k_day_count, k_article] [(k_regular_days, k_days, 0), (k_extraordinary_days, k_days, 0)] [bdChangeT]) bbL ++ bdEnd true) from rfl]
  conv => arg 2; whnf
  dsimp only
  refine wp_seq_k fun K hK => ?_
  have HK : Hid (∀ a w, Code.wp Try.prog (dropSeq 12 (Try.f20.body.getD .skip)) (bodyPost Try.prog Try.f20 (Post20 w0 (topT ([(ruleT 4 false k_quorum k_aboards bbL), ruleT 4 false k_pass k_every bbL, bdRecusalT] ++ bdProxy true ++ five bdBallotT (noticeT [k_regular_days, k_extraordinary_days, k_urgent_oral, k_day_count, k_article] [(k_regular_days, k_days, 0), (k_extraordinary_days, k_days, 0)] [bdChangeT]) bbL ++ bdEnd true)))) a w → K a w) := hK
  clear hK
  refine wp_seq ?_
  refine wp_region_lit ?_
  refine wpList_plain rfl fun K1 hK1 => ?_
  refine op_move (x := .tmp 3) (v := .bool true) rfl (by kernel_rfl) ?_
  refine hK1 _ _ (wpList_nil ?_)
  clear hK1 K1
  simp only [Act.put, List.setIfInBounds_toArray, List.set_cons_succ, List.set_cons_zero, Exit.then]
  refine wp_cond (t := true) (by kernel_rfl) ?_
  rw [if_pos rfl]
  refine wp_seq ?_
  refine bR13 (t7 := bdBallotT) h ?_
  intro p0 p1 p2 p3 p4 p5 p6 p7 p8 p9 p10 p11 p12 p13 p14 p15 p16 p17 p18 p19 p20 p21 p22 p23 p24 p25 p26 p27 p28 p29 p30 p31 p32 p33 p34 p35 p36 p37 p38 p39 p40 p41 p42 p43 p44 p45 p46 p47 p48 p49 p50 p51 p52 p53 p54 p55 p56 p57 p58 p59 p60 p61 p62 p63 p64 p65 p66 p67 p68 p69 p70 p71 p72 p73 p74 p75 p76 p77 p78 p79 p80 p81 p82 p83 p84 p85 p86 p87 p88 p89 p90 p91 p92 p93 p94 p95 p96 p97 p98 p99 p100 p101 p102 p103 p104 p105 p106 p107 p108 p109 p110 p111 p112 w1 h1
  refine wp_seq ?_
  refine bR14 rfl h1 ?_
  intro q0 q1 q2 q3 q4 q5 q6 q7 q8 q9 q10 q11 q12 q13 q14 q15 q16 q17 q18 q19 q20 q21 q22 q23 q24 q25 q26 q27 q28 q29 q30 q31 q32 q33 q34 q35 q36 q37 q38 q39 q40 q41 q42 q43 q44 q45 q46 q47 q48 q49 q50 q51 q52 q53 q54 q55 q56 q57 q58 q59 q60 q61 q62 q63 q64 q65 q66 q67 q68 q69 q70 q71 q72 q73 q74 q75 q76 q77 q78 q79 q80 q81 q82 q83 q84 q85 q86 q87 q88 q89 q90 q91 q92 q93 q94 q95 q96 q97 q98 q99 q100 q101 q102 q103 q104 q105 q106 q107 q108 q109 q110 q111 q112 w2 h2
  refine wp_seq ?_
  refine bR15 h2 ?_
  intro r0 r1 r2 r3 r4 r5 r6 r7 r8 r9 r10 r11 r12 r13 r14 r15 r16 r17 r18 r19 r20 r21 r22 r23 r24 r25 r26 r27 r28 r29 r30 r31 r32 r33 r34 r35 r36 r37 r38 r39 r40 r41 r42 r43 r44 r45 r46 r47 r48 r49 r50 r51 r52 r53 r54 r55 r56 r57 r58 r59 r60 r61 r62 r63 r64 r65 r66 r67 r68 r69 r70 r71 r72 r73 r74 r75 r76 r77 r78 r79 r80 r81 r82 r83 r84 r85 r86 r87 r88 r89 r90 r91 r92 r93 r94 r95 r96 r97 r98 r99 r100 r101 r102 r103 r104 r105 r106 r107 r108 r109 r110 r111 r112 w3 h3
  refine wp_seq ?_
  refine bR16 (t10 := bdBallotT) h3 ?_
  intro s0 s1 s2 s3 s4 s5 s6 s7 s8 s9 s10 s11 s12 s13 s14 s15 s16 s17 s18 s19 s20 s21 s22 s23 s24 s25 s26 s27 s28 s29 s30 s31 s32 s33 s34 s35 s36 s37 s38 s39 s40 s41 s42 s43 s44 s45 s46 s47 s48 s49 s50 s51 s52 s53 s54 s55 s56 s57 s58 s59 s60 s61 s62 s63 s64 s65 s66 s67 s68 s69 s70 s71 s72 s73 s74 s75 s76 s77 s78 s79 s80 s81 s82 s83 s84 s85 s86 s87 s88 s89 s90 s91 s92 s93 s94 s95 s96 s97 s98 s99 s100 s101 s102 s103 s104 s105 s106 s107 s108 s109 s110 s111 s112 w4 h4
  refine wp_seq ?_
  refine bR17 (t10 := bdBallotT) h4 ?_
  intro t0 t1 t2 t3 t4 t5 t6 t7 t8 t9 t10 t11 t12 t13 t14 t15 t16 t17 t18 t19 t20 t21 t22 t23 t24 t25 t26 t27 t28 t29 t30 t31 t32 t33 t34 t35 t36 t37 t38 t39 t40 t41 t42 t43 t44 t45 t46 t47 t48 t49 t50 t51 t52 t53 t54 t55 t56 t57 t58 t59 t60 t61 t62 t63 t64 t65 t66 t67 t68 t69 t70 t71 t72 t73 t74 t75 t76 t77 t78 t79 t80 t81 t82 t83 t84 t85 t86 t87 t88 t89 t90 t91 t92 t93 t94 t95 t96 t97 t98 t99 t100 t101 t102 t103 t104 t105 t106 t107 t108 t109 t110 t111 t112 w5 h5
  refine bR18 (t11 := shChangeT) rfl h5 ?_
  intro v0 v1 v2 v3 v4 v5 v6 v7 v8 v9 v10 v11 v12 v13 v14 v15 v16 v17 v18 v19 v20 v21 v22 v23 v24 v25 v26 v27 v28 v29 v30 v31 v32 v33 v34 v35 v36 v37 v38 v39 v40 v41 v42 v43 v44 v45 v46 v47 v48 v49 v50 v51 v52 v53 v54 v55 v56 v57 v58 v59 v60 v61 v62 v63 v64 v65 v66 v67 v68 v69 v70 v71 v72 v73 v74 v75 v76 v77 v78 v79 v80 v81 v82 v83 v84 v85 v86 v87 v88 v89 v90 v91 v92 v93 v94 v95 v96 v97 v98 v99 v100 v101 v102 v103 v104 v105 v106 v107 v108 v109 v110 v111 v112 w6 h6
  refine HK.out _ _ ?_
  have ho := h6.ord
  have toX : ∀ (w : World), ∀ k ∈ [b10, b2], k ∈ [b11, b10, b9, b8, b7, b2] ∨ w.heap.size ≤ k := fun _ k hk => .inl (by simp only [List.mem_cons, List.not_mem_nil, or_false] at hk ⊢; omega)
  exact tail12 h6.s0 (h6.bs.shift (toX _)) (h6.v7.shift (toX _)) (h6.v8.shift (toX _)) (h6.v9.shift (toX _)) (h6.v10.shift (toX _)) (h6.v11.shift (toX _)) (by omega) (by omega) (by omega) (by omega) (by omega) (by omega) (by omega) (by omega)
end Go.Proofs.Qxb6601023a
