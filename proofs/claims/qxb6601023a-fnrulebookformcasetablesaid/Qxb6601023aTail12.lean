/-
  OWN WORK. rulebookForm (20): 'notice.tables = ..', 'extra := ..' and what follows.
-/
import Derived.Test.Qxb6601023aTail15
namespace Go.Proofs.Qxb6601023a
open Go.RowKit Go.Flow
set_option linter.unusedVariables false
set_option linter.unusedSimpArgs false

/-- The first k statements, and behind them C. -/
def replTail : Nat → Code → Code → Code
  | 0, _, C => C
  | n + 1, .seq a b, C => .seq a (replTail n b C)
  | _ + 1, c, _ => c

theorem VarForm.keep2 {X Y : List Nat} {n : Nat} {w w' : World} {b : Nat} {t : FTree n} (h : VarForm X n w b t) (k : Keep Y w w') (hs : ∀ k ∈ Y, k ∈ X) (hb : b ∉ Y) : VarForm X n w' b t :=
  let ⟨cs, h1, h2⟩ := h
  ⟨cs, h1.keep k hb, h2.keep (k.mono hs)⟩
theorem VarB.size {w : World} {b j : Nat} {v : Value} {p : Addr} : (w.setCell p v).heap.size = w.heap.size := by simp [World.setCell]
theorem VarB.set {w : World} {b j : Nat} {cs : Array Value} (v : Value) (h : VarB w b cs) (hj : j < cs.size) : VarB (w.setCell ⟨b, j, none⟩ v) b (cs.setIfInBounds j v) := by
  refine ⟨by simpa [World.setCell] using h.1, fun i => ?_, fun i => by simpa using h.2.2 i⟩
  by_cases hi : j = i
  · subst hi
    rw [World.cell?_setCell_same' w ⟨b, j, none⟩ v (by rw [h.2.1 j, Array.getElem?_eq_getElem hj]; rfl)]
    rw [Array.getElem?_setIfInBounds_self_of_lt hj]
  · rw [World.cell?_setCell_other w ⟨b, j, none⟩ ⟨b, i, none⟩ v (fun e => hi (by cases e; rfl)), h.2.1 i, Array.getElem?_setIfInBounds_ne hi]
theorem VarB.alloc {w : World} {b : Nat} {cs : Array Value} (o : Obj) (h : VarB w b cs) : VarB (w.alloc o) b cs := h.keep (X := []) ((Keep.refl _ _).alloc _) (by simp)
theorem VarB.below {w w' : World} {b : Nat} {cs : Array Value} (h : VarB w b cs) (hb : Below w.heap.size w w') : VarB w' b cs := h.keep (X := []) (Keep.of_below hb) (by simp)
/-- A variable that was just laid. -/
theorem VarB.new {w : World} (cs : Array Value) (t : TypeId) {B : Nat} (hB : w.heap.size = B) : VarB (w.alloc (.cells cs t)) B cs := by
  subst hB
  exact ⟨by simp, fun j => World.cell?_alloc_new w cs t j, fun j => World.frozen?_alloc_new w cs t j⟩

/-- A store into a variable leaves the state. -/
theorem S0.store {w0 w W : World} {b2 b4 b5 b : Nat} {bl : List ByteArray} {sb : Value} (h : S0 w0 w b2 b4 b5 bl sb) (hb : Below w0.heap.size w0 W) (k : Keep [b] w W) (hbs : Bases [b, b2] w sb bl) (n2 : b2 ≠ b) (n5 : b5 ≠ b) (n4 : b4 ≠ b) : S0 w0 W b2 b4 b5 bl sb := by
  refine ⟨hb, h.low, h.var2.keep k (by simpa using n2), ?_, Nat.lt_of_lt_of_le h.l5 k.size, ?_, Nat.lt_of_lt_of_le h.l4 k.size, (hbs.keep (k.mono (by simp))).shift fun k hk => .inl (by simp at hk; simp [hk])⟩
  · rw [World.cell?_of_block (w := w) (w' := W) (a := ⟨b5, 0, none⟩) (k.block b5 h.l5 (by simpa using n5))]; exact h.c5
  · rw [World.cell?_of_block (w := w) (w' := W) (a := ⟨b4, 0, none⟩) (k.block b4 h.l4 (by simpa using n4))]; exact h.c4

set_option maxRecDepth 100000 in
set_option maxHeartbeats 1000000 in
theorem tail12 {w0 w : World} {tq tr tb : FTree 5} {tc : FTree 4} {ks : List ByteArray} {cs : List (ByteArray × ByteArray × Int)} {board : Bool} {b2 b4 b5 b7 b8 b9 b10 b11 : Nat} {sb : Value} {bl : List ByteArray} {u0 u1 u4 u12 u13 u14 u15 u16 u17 u18 u19 u20 u21 u22 u23 u24 u25 u26 u27 u28 u29 u30 u31 u32 u33 u34 u35 u36 u37 u38 u39 u40 u41 u42 u43 u44 u45 u46 u47 u48 u49 u50 u51 u52 u53 u54 u55 u56 u57 u58 u59 u60 u61 u62 u63 u64 u65 u66 u67 u68 u69 u70 u71 u72 u73 u74 u75 u76 u77 u78 u79 u80 u81 u82 u83 u84 u85 u86 u87 u88 u89 u90 u91 u92 u93 u94 u95 u96 u97 u98 u99 u100 u101 u102 u103 u104 u105 u106 u107 u108 u109 u110 u111 u112 u113 u114 u115 u116 u117 u118 u119 u120 u121 : Value} (h : S0 w0 w b2 b4 b5 bl sb)
    (hbs : Bases [b10, b2] w sb bl) (h7 : VarForm [b10, b2] 5 w b7 tq) (h8 : VarForm [b10, b2] 5 w b8 tr) (h9 : VarForm [b10, b2] 5 w b9 tb) (h10 : VarForm [b10, b2] 5 w b10 (noticeT ks cs [])) (h11 : VarForm [b10, b2] 4 w b11 tc)
    (n7 : b7 ≠ b10) (n8 : b8 ≠ b10) (n9 : b9 ≠ b2) (n9' : b9 ≠ b10) (n10 : b10 ≠ b2) (n5 : b5 ≠ b10) (n4 : b4 ≠ b10) (low10 : w0.heap.size ≤ b10) :
    Code.wp Try.prog (dropSeq 12 (Try.f20.body.getD .skip)) (bodyPost Try.prog Try.f20 (Post20 w0 (topT ([tq, (ruleT 4 false k_pass k_every bl), tr] ++ bdProxy board ++ five tb (noticeT ks cs [tc]) bl ++ bdEnd board)))) ⟨#[u0, u1, .pointer (some ⟨b2, 0, none⟩), .bool board, u4, .pointer (some ⟨b5, 0, none⟩), .func (.func 43) #[] #[.pointer (some ⟨b5, 0, none⟩)], .pointer (some ⟨b7, 0, none⟩), .pointer (some ⟨b8, 0, none⟩), .pointer (some ⟨b9, 0, none⟩), .pointer (some ⟨b10, 0, none⟩), .pointer (some ⟨b11, 0, none⟩), u12, u13, u14, u15, u16, u17, u18, u19, u20, u21, u22, u23, u24, u25, u26, u27, u28, u29, u30, u31, u32, u33, u34, u35, u36, u37, u38, u39, u40, u41, u42, u43, u44, u45, u46, u47, u48, u49, u50, u51, u52, u53, u54, u55, u56, u57, u58, u59, u60, u61, u62, u63, u64, u65, u66, u67, u68, u69, u70, u71, u72, u73, u74, u75, u76, u77, u78, u79, u80, u81, u82, u83, u84, u85, u86, u87, u88, u89, u90, u91, u92, u93, u94, u95, u96, u97, u98, u99, u100, u101, u102, u103, u104, u105, u106, u107, u108, u109, u110, u111, u112, u113, u114, u115, u116, u117, u118, u119, u120, u121], []⟩ w := by
  obtain ⟨cs10, hv10, hf10⟩ := id h10
  obtain ⟨cs11, hv11, hf11⟩ := id h11
  obtain ⟨pa4, pn4, pd4, pa5, pn5, pd5, pa6, pn6, pd6, pa7, pn7, pd7, pa8, pn8, pd8, pa9, pn9, pd9, pa10, pn10, pd10, e10, i1, i2, i3, i4, i5, i6, i7⟩ := hf10.open
  obtain ⟨qa4, qn4, qd4, qa5, qn5, qd5, qa6, qn6, qd6, qa7, qn7, qd7, qa8, qn8, qd8, qa9, qn9, qd9, qa10, qn10, qd10, e11, -⟩ := hf11.open
  cases e10
  cases e11
  have HV10 : Hid (VarB w b10 _) := hv10
  obtain ⟨l10, c10, f10⟩ := hv10
  obtain ⟨l11, c11, f11⟩ := hv11
  obtain ⟨T, hT⟩ : ∃ T, T = topT ([tq, (ruleT 4 false k_pass k_every bl), tr] ++ bdProxy board ++ five tb (noticeT ks cs [tc]) bl ++ bdEnd board) := ⟨_, rfl⟩
  rw [← hT]
  have HT : Hid (T = topT ([tq, (ruleT 4 false k_pass k_every bl), tr] ++ bdProxy board ++ five tb (noticeT ks cs [tc]) bl ++ bdEnd board)) := hT
  clear hT
  obtain ⟨C, hC⟩ : ∃ C, C = dropSeq 15 (Try.f20.body.getD .skip) := ⟨_, rfl⟩
  have e : dropSeq 12 (Try.f20.body.getD .skip) = replTail 3 (dropSeq 12 (Try.f20.body.getD .skip)) C := by subst hC; rfl
  rw [e]
  have HC : Hid (C = dropSeq 15 (Try.f20.body.getD .skip)) := hC
  clear hC e
  have H : Hid (S0 w0 w b2 b4 b5 bl sb) := h
  have hc5 := h.c5
  have hl5 := h.l5
  have hc4 := h.c4
  have hl4 := h.l4
  clear h
  have HBS : Hid (Bases [b10, b2] w sb bl) := hbs
  clear hbs
  conv => arg 2; whnf
  simp only [replTail]
  go_wp2_with fail
  have hk : ∀ Z, Keep [b10] w ((w.setCell ⟨b10, 10, none⟩ (.slice (some ⟨w.heap.size, 0, none⟩) 1 1)).alloc Z) := fun Z => ((Keep.refl _ _).setCell _ (by simp) _).alloc _
  have hbW : ∀ Z, Below w0.heap.size w0 ((w.setCell ⟨b10, 10, none⟩ (.slice (some ⟨w.heap.size, 0, none⟩) 1 1)).alloc Z) := fun Z => (H.out.below.setCell (by exact low10) _).alloc (by have := H.out.below.size; simp [World.setCell]; omega) _
  have hn2 : b2 ≠ b10 := fun e => n10 e.symm
  have hS1 := fun Z => H.out.store (hbW Z) (hk Z) HBS.out hn2 n5 n4
  refine (rule43 (X := [b2]) k_extra k_empty b4 b5 (sb := sb) (bl := bl) (fun k hk => ?_) (hS1 _).c5 (hS1 _).l5 (hS1 _).c4 (hS1 _).l4 (hS1 _).bases).mono ?_
  · simp at hk; subst hk; exact (hS1 _).var2.1
  rintro e w2 ⟨v, rfl, hf, hbel, hsz⟩
  obtain ⟨ra4, rn4, rd4, ra5, rn5, rd5, ra6, rn6, rd6, ra7, rn7, rd7, ra8, rn8, rd8, ra9, rn9, rd9, ra10, rn10, rd10, rfl, j1, j2, j3, j4, j5, j6, j7⟩ := (hf 3).open
  clear hf
  have HJ := And.intro j1 (And.intro j2 (And.intro j3 (And.intro j4 (And.intro j5 (And.intro j6 j7)))))
  have HI := And.intro i1 (And.intro i2 (And.intro i3 (And.intro i4 (And.intro i5 i6))))
  clear j1 j2 j3 j4 j5 j6 j7 i1 i2 i3 i4 i5 i6 i7
  go_wp2
  obtain ⟨j1, j2, j3, j4, j5, j6, j7⟩ := HJ
  obtain ⟨i1, i2, i3, i4, i5, i6⟩ := HI
  rw [HC.out, HT.out]
  have hs2 : w2.heap.size = w.heap.size + 1 + 6 := by rw [hsz]; simp [World.setCell]
  have hb3 := fun A => hbel.alloc hbel.size A
  have hka := fun A => ((hk (.cells #[.string (FNode.name tc), .bool (FNode.array tc), .string (FNode.needed tc), .string (FNode.left tc), .slice qa4 qn4 qd4, .slice qa5 qn5 qd5, .slice qa6 qn6 qd6, .slice qa7 qn7 qd7, .slice qa8 qn8 qd8, .slice qa9 qn9 qd9, .slice qa10 qn10 qd10] 30)).below (hb3 A))
  have hkb := fun A => (hka A).mono (Y := [b10, b2]) (by simp)
  have toX : ∀ (w : World), ∀ k ∈ [b2], k ∈ [b10, b2] ∨ w.heap.size ≤ k := fun _ k hk => .inl (by simp at hk; simp [hk])
  have H7 := fun A => (h7.keep2 (hka A) (by simp) (by simpa using n7)).shift (toX _)
  have H8 := fun A => (h8.keep2 (hka A) (by simp) (by simpa using n8)).shift (toX _)
  have H9 := fun A => (h9.keep2 (hka A) (by simp) (by simpa using n9')).shift (toX _)
  have kA : ∀ A, Keep [b2] w2 (w2.alloc A) := fun A => (Keep.refl _ _).alloc _
  refine tail15 ((hS1 _).grow (hb3 _)) (H7 _) (H8 _) (H9 _) ⟨_, ((HV10.out.set (j := 10) (.slice (some ⟨w.heap.size, 0, none⟩) 1 1) (by simp)).alloc _).below (hb3 _), ?_⟩ ⟨_, VarB.new _ 30 hs2, ?_⟩ n9 n10 ?_
  · refine ⟨_, _, _, _, _, _, _, rfl, (i1.keep (hkb _)).shift (toX _), (i2.keep (hkb _)).shift (toX _), (i3.keep (hkb _)).shift (toX _), (i4.keep (hkb _)).shift (toX _), (i5.keep (hkb _)).shift (toX _), (i6.keep (hkb _)).shift (toX _), ?_⟩
    refine formsLit [_] (cs := #[.string (FNode.name tc), .bool (FNode.array tc), .string (FNode.needed tc), .string (FNode.left tc), .slice qa4 qn4 qd4, .slice qa5 qn5 qd5, .slice qa6 qn6 qd6, .slice qa7 qn7 qd7, .slice qa8 qn8 qd8, .slice qa9 qn9 qd9, .slice qa10 qn10 qd10]) ?_ ?_ rfl (by decide) rfl (List.append_nil _).symm rfl (one_form rfl ((hf11.keep (hkb _)).shift (toX _)))
    · rw [(hb3 _).block w.heap.size (by simp [World.setCell])]
      exact blk_top _ _ (by simp [World.setCell])
    · have := H.out.var2.1; simp; omega
  · exact ⟨_, _, _, _, _, _, _, rfl, j1.keep (kA _), j2.keep (kA _), j3.keep (kA _), j4.keep (kA _), j5.keep (kA _), j6.keep (kA _), j7.keep (kA _) fun _ _ h => h.keep (kA _)⟩
  · have := H.out.var2.1; omega
end Go.Proofs.Qxb6601023a
