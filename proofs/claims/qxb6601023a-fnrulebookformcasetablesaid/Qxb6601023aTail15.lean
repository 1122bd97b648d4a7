/-
  OWN WORK. rulebookForm (20): 'tables := []form{quorum, rule("pass", ..), recusal}' and what follows.
-/
import Derived.Test.Qxb6601023aTail16
namespace Go.Proofs.Qxb6601023a
open Go.RowKit Go.Flow
set_option linter.unusedVariables false
set_option linter.unusedSimpArgs false

/-- What each operation of the region yields. -/
def phi22 (X : List Nat) (v7 v8 f6 : Value) (bl : List ByteArray) : Nat → Value → World → Prop
  | 0, v, _ => v = v7
  | 1, v, _ => v = f6
  | 2, v, w => FormIs X 5 w v (ruleT 4 false k_pass k_every bl)
  | 3, v, _ => v = v8
  | _, _, _ => False

theorem phi22_keep {X : List Nat} {v7 v8 f6 : Value} {bl : List ByteArray} (i : Nat) (v : Value) (w1 w2 : World) (hi : i < 4) (h : phi22 X v7 v8 f6 bl i v w1) (hb : Below w1.heap.size w1 w2) : phi22 X v7 v8 f6 bl i v w2 := by
  have k : Keep X w1 w2 := Keep.of_below hb
  match i, h with
  | 0, h => exact h
  | 1, h => exact h
  | 2, h => exact FormIs.keep h k
  | 3, h => exact h

/-- The state ahead of the list of tables. -/
structure S0 (w0 w : World) (b2 b4 b5 : Nat) (bl : List ByteArray) (sb : Value) : Prop where
  below : Below w0.heap.size w0 w
  low : w0.heap.size ≤ b2
  var2 : VarB w b2 #[.string k_empty, .bool false, .string k_empty, .string k_empty, .slice none 0 0, .slice none 0 0, .slice none 0 0, .slice none 0 0, .slice none 0 0, .slice none 0 0, .slice none 0 0]
  c5 : w.cell? ⟨b5, 0, none⟩ = some (.func (.func 42) #[] #[.pointer (some ⟨b4, 0, none⟩)])
  l5 : b5 < w.heap.size
  c4 : w.cell? ⟨b4, 0, none⟩ = some sb
  l4 : b4 < w.heap.size
  bases : Bases [b2] w sb bl

theorem S0.grow {w0 w w2 : World} {b2 b4 b5 : Nat} {bl : List ByteArray} {sb : Value} (h : S0 w0 w b2 b4 b5 bl sb) (hb : Below w.heap.size w w2) : S0 w0 w2 b2 b4 b5 bl sb :=
  ⟨h.below.trans (hb.mono h.below.size), h.low, h.var2.keep (Keep.of_below hb) (X := []) (by simp), cell_up hb h.l5 h.c5, Nat.lt_of_lt_of_le h.l5 hb.size, cell_up hb h.l4 h.c4, Nat.lt_of_lt_of_le h.l4 hb.size, h.bases.keep (Keep.of_below hb)⟩

theorem shift_new {X : List Nat} {w : World} : ∀ k ∈ w.heap.size :: X, k ∈ X ∨ w.heap.size ≤ k := fun k hk => by
  rcases List.mem_cons.1 hk with rfl | hk
  · exact .inr (Nat.le_refl _)
  · exact .inl hk

/-- The list of tables as a slice literal lays it. -/
theorem S0.start {w0 w : World} {b2 b4 b5 : Nat} {bl : List ByteArray} {sb : Value} (h : S0 w0 w b2 b4 b5 bl sb) (cs : Array Value) (css : List (List Value)) (ts : List (FTree 5)) (hlen : css.length = ts.length) (hcs : cs.toList = css.flatten) (hsz : cs.size = ts.length * 11) (hl : ts.length ≤ 100) (hpos : 0 < ts.length)
    (each : ∀ (i : Nat) (c : List Value) (t : FTree 5), css[i]? = some c → ts[i]? = some t → c.length = 11 ∧ FormIs [b2] 5 w (.agg c.toArray) t) :
    St w0 (w.alloc (.cells cs 30)) b2 b4 b5 bl w.heap.size (.slice (some ⟨w.heap.size, 0, none⟩) ts.length ts.length) sb css ts := by
  have hb : Below w.heap.size w (w.alloc (.cells cs 30)) := (Below.refl _ _).alloc (Nat.le_refl _) _
  have h' := h.grow hb
  have h2 : b2 < w.heap.size := h.var2.1
  refine ⟨h'.below, h.low, h'.var2, ⟨⟨?_, .inr ⟨w.heap.size, ts.length, cs, rfl, h.below.size, heap_alloc_new w _, Nat.le_refl _, by unfold maxLen; omega, hsz, ?_⟩⟩, rfl, by simp; omega, hlen, hpos, fun i c t hc ht => ?_⟩, by omega, h'.c5, h'.l5, h'.c4, h'.l4, (h.bases.shift shift_new).keep (Keep.of_below hb), by have := h.l5; omega, by have := h.l4; omega⟩
  · rw [← hcs]; simpa using hsz
  · rw [hcs]
    refine List.take_of_length_le ?_
    rw [← hcs]; simp [hsz]
  · obtain ⟨a, b⟩ := each i c t hc ht
    exact ⟨a, (b.shift shift_new).keep (Keep.of_below hb)⟩

set_option maxRecDepth 100000 in
set_option maxHeartbeats 1000000 in
theorem tail15 {w0 w : World} {tq tr tb tn : FTree 5} {board : Bool} {b2 b4 b5 b7 b8 b9 b10 b12 : Nat} {sb : Value} {bl : List ByteArray} {u0 u1 u4 u11 u13 u14 u15 u16 u17 u18 u19 u20 u21 u22 u23 u24 u25 u26 u27 u28 u29 u30 u31 u32 u33 u34 u35 u36 u37 u38 u39 u40 u41 u42 u43 u44 u45 u46 u47 u48 u49 u50 u51 u52 u53 u54 u55 u56 u57 u58 u59 u60 u61 u62 u63 u64 u65 u66 u67 u68 u69 u70 u71 u72 u73 u74 u75 u76 u77 u78 u79 u80 u81 u82 u83 u84 u85 u86 u87 u88 u89 u90 u91 u92 u93 u94 u95 u96 u97 u98 u99 u100 u101 u102 u103 u104 u105 u106 u107 u108 u109 u110 u111 u112 u113 u114 u115 u116 u117 u118 u119 u120 u121 : Value} (h : S0 w0 w b2 b4 b5 bl sb)
    (h7 : VarForm [b2] 5 w b7 tq) (h8 : VarForm [b2] 5 w b8 tr) (h9 : VarForm [b2] 5 w b9 tb) (h10 : VarForm [b2] 5 w b10 tn) (h12 : VarForm [b2] 4 w b12 (ruleT 3 true k_extra k_empty bl)) (n9 : b9 ≠ b2) (n10 : b10 ≠ b2) (n12 : b12 ≠ b2) :
    Code.wp Try.prog (dropSeq 15 (Try.f20.body.getD .skip)) (bodyPost Try.prog Try.f20 (Post20 w0 (topT ([tq, (ruleT 4 false k_pass k_every bl), tr] ++ bdProxy board ++ five tb tn bl ++ bdEnd board)))) ⟨#[u0, u1, .pointer (some ⟨b2, 0, none⟩), .bool board, u4, .pointer (some ⟨b5, 0, none⟩), .func (.func 43) #[] #[.pointer (some ⟨b5, 0, none⟩)], .pointer (some ⟨b7, 0, none⟩), .pointer (some ⟨b8, 0, none⟩), .pointer (some ⟨b9, 0, none⟩), .pointer (some ⟨b10, 0, none⟩), u11, .pointer (some ⟨b12, 0, none⟩), u13, u14, u15, u16, u17, u18, u19, u20, u21, u22, u23, u24, u25, u26, u27, u28, u29, u30, u31, u32, u33, u34, u35, u36, u37, u38, u39, u40, u41, u42, u43, u44, u45, u46, u47, u48, u49, u50, u51, u52, u53, u54, u55, u56, u57, u58, u59, u60, u61, u62, u63, u64, u65, u66, u67, u68, u69, u70, u71, u72, u73, u74, u75, u76, u77, u78, u79, u80, u81, u82, u83, u84, u85, u86, u87, u88, u89, u90, u91, u92, u93, u94, u95, u96, u97, u98, u99, u100, u101, u102, u103, u104, u105, u106, u107, u108, u109, u110, u111, u112, u113, u114, u115, u116, u117, u118, u119, u120, u121], []⟩ w := by
  obtain ⟨cs7, hv7, hf7⟩ := h7
  obtain ⟨cs8, hv8, hf8⟩ := h8
  obtain ⟨pa4, pn4, pd4, pa5, pn5, pd5, pa6, pn6, pd6, pa7, pn7, pd7, pa8, pn8, pd8, pa9, pn9, pd9, pa10, pn10, pd10, e7, -⟩ := hf7.open
  obtain ⟨qa4, qn4, qd4, qa5, qn5, qd5, qa6, qn6, qd6, qa7, qn7, qd7, qa8, qn8, qd8, qa9, qn9, qd9, qa10, qn10, qd10, e8, -⟩ := hf8.open
  cases e7
  cases e8
  conv => arg 2; whnf
  dsimp only
  refine wp_seq_k fun K hK => ?_
  have HK : Hid (∀ a w, Code.wp Try.prog (dropSeq 16 (Try.f20.body.getD .skip)) (bodyPost Try.prog Try.f20 (Post20 w0 (topT ([tq, (ruleT 4 false k_pass k_every bl), tr] ++ bdProxy board ++ five tb tn bl ++ bdEnd board)))) a w → K a w) := hK
  clear hK
  refine wp_region_flow 4 [74, 75, 76, 77] (phi22 [b2] (.agg #[.string (FNode.name tq), .bool (FNode.array tq), .string (FNode.needed tq), .string (FNode.left tq), .slice pa4 pn4 pd4, .slice pa5 pn5 pd5, .slice pa6 pn6 pd6, .slice pa7 pn7 pd7, .slice pa8 pn8 pd8, .slice pa9 pn9 pd9, .slice pa10 pn10 pd10]) (.agg #[.string (FNode.name tr), .bool (FNode.array tr), .string (FNode.needed tr), .string (FNode.left tr), .slice qa4 qn4 qd4, .slice qa5 qn5 qd5, .slice qa6 qn6 qd6, .slice qa7 qn7 qd7, .slice qa8 qn8 qd8, .slice qa9 qn9 qd9, .slice qa10 qn10 qd10]) (.func (.func 43) #[] #[.pointer (some ⟨b5, 0, none⟩)]) bl) (by kernel_rfl) (by kernel_rfl) phi22_keep ?hop ?hend
  case hop =>
    intro i o hi ho vals w' hb hd
    have hk : ∀ Y, Keep Y w w' := fun Y => Keep.of_below hb
    have hX' : ∀ k ∈ [b2], k < w'.heap.size := fun k hk => by simp at hk; subst hk; exact Nat.lt_of_lt_of_le h.var2.1 hb.size
    have ev6 : Act.eval (fill [74, 75, 76, 77] 0 vals ⟨#[u0, u1, .pointer (some ⟨b2, 0, none⟩), .bool board, u4, .pointer (some ⟨b5, 0, none⟩), .func (.func 43) #[] #[.pointer (some ⟨b5, 0, none⟩)], .pointer (some ⟨b7, 0, none⟩), .pointer (some ⟨b8, 0, none⟩), .pointer (some ⟨b9, 0, none⟩), .pointer (some ⟨b10, 0, none⟩), u11, .pointer (some ⟨b12, 0, none⟩), u13, u14, u15, u16, u17, u18, u19, u20, u21, u22, u23, u24, u25, u26, u27, u28, u29, u30, u31, u32, u33, u34, u35, u36, u37, u38, u39, u40, u41, u42, u43, u44, u45, u46, u47, u48, u49, u50, u51, u52, u53, u54, u55, u56, u57, u58, u59, u60, u61, u62, u63, u64, u65, u66, u67, u68, u69, u70, u71, u72, u73, u74, u75, u76, u77, u78, u79, u80, u81, u82, u83, u84, u85, u86, u87, u88, u89, u90, u91, u92, u93, u94, u95, u96, u97, u98, u99, u100, u101, u102, u103, u104, u105, u106, u107, u108, u109, u110, u111, u112, u113, u114, u115, u116, u117, u118, u119, u120, u121], []⟩) (.tmp 6) = .func (.func 43) #[] #[.pointer (some ⟨b5, 0, none⟩)] := by kernel_rfl
    have ev7 : Act.eval (fill [74, 75, 76, 77] 0 vals ⟨#[u0, u1, .pointer (some ⟨b2, 0, none⟩), .bool board, u4, .pointer (some ⟨b5, 0, none⟩), .func (.func 43) #[] #[.pointer (some ⟨b5, 0, none⟩)], .pointer (some ⟨b7, 0, none⟩), .pointer (some ⟨b8, 0, none⟩), .pointer (some ⟨b9, 0, none⟩), .pointer (some ⟨b10, 0, none⟩), u11, .pointer (some ⟨b12, 0, none⟩), u13, u14, u15, u16, u17, u18, u19, u20, u21, u22, u23, u24, u25, u26, u27, u28, u29, u30, u31, u32, u33, u34, u35, u36, u37, u38, u39, u40, u41, u42, u43, u44, u45, u46, u47, u48, u49, u50, u51, u52, u53, u54, u55, u56, u57, u58, u59, u60, u61, u62, u63, u64, u65, u66, u67, u68, u69, u70, u71, u72, u73, u74, u75, u76, u77, u78, u79, u80, u81, u82, u83, u84, u85, u86, u87, u88, u89, u90, u91, u92, u93, u94, u95, u96, u97, u98, u99, u100, u101, u102, u103, u104, u105, u106, u107, u108, u109, u110, u111, u112, u113, u114, u115, u116, u117, u118, u119, u120, u121], []⟩) (.tmp 7) = .pointer (some ⟨b7, 0, none⟩) := by kernel_rfl
    have ev8 : Act.eval (fill [74, 75, 76, 77] 0 vals ⟨#[u0, u1, .pointer (some ⟨b2, 0, none⟩), .bool board, u4, .pointer (some ⟨b5, 0, none⟩), .func (.func 43) #[] #[.pointer (some ⟨b5, 0, none⟩)], .pointer (some ⟨b7, 0, none⟩), .pointer (some ⟨b8, 0, none⟩), .pointer (some ⟨b9, 0, none⟩), .pointer (some ⟨b10, 0, none⟩), u11, .pointer (some ⟨b12, 0, none⟩), u13, u14, u15, u16, u17, u18, u19, u20, u21, u22, u23, u24, u25, u26, u27, u28, u29, u30, u31, u32, u33, u34, u35, u36, u37, u38, u39, u40, u41, u42, u43, u44, u45, u46, u47, u48, u49, u50, u51, u52, u53, u54, u55, u56, u57, u58, u59, u60, u61, u62, u63, u64, u65, u66, u67, u68, u69, u70, u71, u72, u73, u74, u75, u76, u77, u78, u79, u80, u81, u82, u83, u84, u85, u86, u87, u88, u89, u90, u91, u92, u93, u94, u95, u96, u97, u98, u99, u100, u101, u102, u103, u104, u105, u106, u107, u108, u109, u110, u111, u112, u113, u114, u115, u116, u117, u118, u119, u120, u121], []⟩) (.tmp 8) = .pointer (some ⟨b8, 0, none⟩) := by kernel_rfl
    have ev75 : Act.eval (fill [74, 75, 76, 77] 0 vals ⟨#[u0, u1, .pointer (some ⟨b2, 0, none⟩), .bool board, u4, .pointer (some ⟨b5, 0, none⟩), .func (.func 43) #[] #[.pointer (some ⟨b5, 0, none⟩)], .pointer (some ⟨b7, 0, none⟩), .pointer (some ⟨b8, 0, none⟩), .pointer (some ⟨b9, 0, none⟩), .pointer (some ⟨b10, 0, none⟩), u11, .pointer (some ⟨b12, 0, none⟩), u13, u14, u15, u16, u17, u18, u19, u20, u21, u22, u23, u24, u25, u26, u27, u28, u29, u30, u31, u32, u33, u34, u35, u36, u37, u38, u39, u40, u41, u42, u43, u44, u45, u46, u47, u48, u49, u50, u51, u52, u53, u54, u55, u56, u57, u58, u59, u60, u61, u62, u63, u64, u65, u66, u67, u68, u69, u70, u71, u72, u73, u74, u75, u76, u77, u78, u79, u80, u81, u82, u83, u84, u85, u86, u87, u88, u89, u90, u91, u92, u93, u94, u95, u96, u97, u98, u99, u100, u101, u102, u103, u104, u105, u106, u107, u108, u109, u110, u111, u112, u113, u114, u115, u116, u117, u118, u119, u120, u121], []⟩) (.tmp 75) = vals 1 := by kernel_rfl
    generalize fill [74, 75, 76, 77] 0 vals ⟨#[u0, u1, .pointer (some ⟨b2, 0, none⟩), .bool board, u4, .pointer (some ⟨b5, 0, none⟩), .func (.func 43) #[] #[.pointer (some ⟨b5, 0, none⟩)], .pointer (some ⟨b7, 0, none⟩), .pointer (some ⟨b8, 0, none⟩), .pointer (some ⟨b9, 0, none⟩), .pointer (some ⟨b10, 0, none⟩), u11, .pointer (some ⟨b12, 0, none⟩), u13, u14, u15, u16, u17, u18, u19, u20, u21, u22, u23, u24, u25, u26, u27, u28, u29, u30, u31, u32, u33, u34, u35, u36, u37, u38, u39, u40, u41, u42, u43, u44, u45, u46, u47, u48, u49, u50, u51, u52, u53, u54, u55, u56, u57, u58, u59, u60, u61, u62, u63, u64, u65, u66, u67, u68, u69, u70, u71, u72, u73, u74, u75, u76, u77, u78, u79, u80, u81, u82, u83, u84, u85, u86, u87, u88, u89, u90, u91, u92, u93, u94, u95, u96, u97, u98, u99, u100, u101, u102, u103, u104, u105, u106, u107, u108, u109, u110, u111, u112, u113, u114, u115, u116, u117, u118, u119, u120, u121], []⟩ = F at *
    have hi' : i = 0 ∨ i = 1 ∨ i = 2 ∨ i = 3 := by omega
    rcases hi' with rfl | rfl | rfl | rfl
    all_goals simp only [List.getElem?_cons_zero, List.getElem?_cons_succ, Option.some.injEq] at ho
    all_goals subst ho
    · refine op_load (x := .tmp 7) rfl ev7 (run_load30 (hv7.keep (hk []) (by simp))) ?_
      exact ⟨_, rfl, Below.refl _ _, rfl⟩
    · refine op_move (x := .tmp 6) rfl ev6 ?_
      exact ⟨_, rfl, Below.refl _ _, rfl⟩
    · have h1 : vals 1 = .func (.func 43) #[] #[.pointer (some ⟨b5, 0, none⟩)] := hd ⟨1, .data⟩ (by simp) rfl
      refine op_closure (x := .tmp 75) (s1 := .string k_pass) (s2 := .string k_every) (p := .pointer (some ⟨b5, 0, none⟩)) (f := 43) rfl (ev75.trans h1) (fun w => Try.call43 _ w) ?_
      refine (rule43 (X := [b2]) k_pass k_every b4 b5 hX' (cell_up hb h.l5 h.c5) (Nat.lt_of_lt_of_le h.l5 hb.size) (cell_up hb h.l4 h.c4) (Nat.lt_of_lt_of_le h.l4 hb.size) (h.bases.keep (hk _))).mono ?_
      rintro e w2 ⟨v, rfl, hf, hbel, -⟩
      exact ⟨v, rfl, v, rfl, hbel, hf 4⟩
    · refine op_load (x := .tmp 8) rfl ev8 (run_load30 (hv8.keep (hk []) (by simp))) ?_
      exact ⟨_, rfl, Below.refl _ _, rfl⟩
  case hend =>
    intro vals w' hb hd
    have hk : ∀ Y, Keep Y w w' := fun Y => Keep.of_below hb
    have h0 : vals 0 = .agg #[.string (FNode.name tq), .bool (FNode.array tq), .string (FNode.needed tq), .string (FNode.left tq), .slice pa4 pn4 pd4, .slice pa5 pn5 pd5, .slice pa6 pn6 pd6, .slice pa7 pn7 pd7, .slice pa8 pn8 pd8, .slice pa9 pn9 pd9, .slice pa10 pn10 pd10] := hd 0 (by omega)
    have h2 : FormIs [b2] 5 w' (vals 2) (ruleT 4 false k_pass k_every bl) := hd 2 (by omega)
    have h3 : vals 3 = .agg #[.string (FNode.name tr), .bool (FNode.array tr), .string (FNode.needed tr), .string (FNode.left tr), .slice qa4 qn4 qd4, .slice qa5 qn5 qd5, .slice qa6 qn6 qd6, .slice qa7 qn7 qd7, .slice qa8 qn8 qd8, .slice qa9 qn9 qd9, .slice qa10 qn10 qd10] := hd 3 (by omega)
    obtain ⟨sa4, sn4, sd4, sa5, sn5, sd5, sa6, sn6, sd6, sa7, sn7, sd7, sa8, sn8, sd8, sa9, sn9, sd9, sa10, sn10, sd10, e2, -⟩ := h2.open
    rw [e2] at h2
    have hS := (h.grow hb).start #[.string (FNode.name tq), .bool (FNode.array tq), .string (FNode.needed tq), .string (FNode.left tq), .slice pa4 pn4 pd4, .slice pa5 pn5 pd5, .slice pa6 pn6 pd6, .slice pa7 pn7 pd7, .slice pa8 pn8 pd8, .slice pa9 pn9 pd9, .slice pa10 pn10 pd10, .string (FNode.name (ruleT 4 false k_pass k_every bl)), .bool (FNode.array (ruleT 4 false k_pass k_every bl)), .string (FNode.needed (ruleT 4 false k_pass k_every bl)), .string (FNode.left (ruleT 4 false k_pass k_every bl)), .slice sa4 sn4 sd4, .slice sa5 sn5 sd5, .slice sa6 sn6 sd6, .slice sa7 sn7 sd7, .slice sa8 sn8 sd8, .slice sa9 sn9 sd9, .slice sa10 sn10 sd10, .string (FNode.name tr), .bool (FNode.array tr), .string (FNode.needed tr), .string (FNode.left tr), .slice qa4 qn4 qd4, .slice qa5 qn5 qd5, .slice qa6 qn6 qd6, .slice qa7 qn7 qd7, .slice qa8 qn8 qd8, .slice qa9 qn9 qd9, .slice qa10 qn10 qd10] [_, _, _] [tq, (ruleT 4 false k_pass k_every bl), tr] rfl rfl rfl (by simp) (by simp) (more_forms rfl (hf7.keep (hk _)) (two_forms rfl h2 rfl (hf8.keep (hk _))))
    have HS : Hid (St w0 (w'.alloc (.cells #[.string (FNode.name tq), .bool (FNode.array tq), .string (FNode.needed tq), .string (FNode.left tq), .slice pa4 pn4 pd4, .slice pa5 pn5 pd5, .slice pa6 pn6 pd6, .slice pa7 pn7 pd7, .slice pa8 pn8 pd8, .slice pa9 pn9 pd9, .slice pa10 pn10 pd10, .string (FNode.name (ruleT 4 false k_pass k_every bl)), .bool (FNode.array (ruleT 4 false k_pass k_every bl)), .string (FNode.needed (ruleT 4 false k_pass k_every bl)), .string (FNode.left (ruleT 4 false k_pass k_every bl)), .slice sa4 sn4 sd4, .slice sa5 sn5 sd5, .slice sa6 sn6 sd6, .slice sa7 sn7 sd7, .slice sa8 sn8 sd8, .slice sa9 sn9 sd9, .slice sa10 sn10 sd10, .string (FNode.name tr), .bool (FNode.array tr), .string (FNode.needed tr), .string (FNode.left tr), .slice qa4 qn4 qd4, .slice qa5 qn5 qd5, .slice qa6 qn6 qd6, .slice qa7 qn7 qd7, .slice qa8 qn8 qd8, .slice qa9 qn9 qd9, .slice qa10 qn10 qd10] 30)) b2 b4 b5 bl w'.heap.size (.slice (some ⟨w'.heap.size, 0, none⟩) 3 3) sb _ [tq, (ruleT 4 false k_pass k_every bl), tr]) := hS
    have hbA : Below w'.heap.size w' (w'.alloc (.cells #[.string (FNode.name tq), .bool (FNode.array tq), .string (FNode.needed tq), .string (FNode.left tq), .slice pa4 pn4 pd4, .slice pa5 pn5 pd5, .slice pa6 pn6 pd6, .slice pa7 pn7 pd7, .slice pa8 pn8 pd8, .slice pa9 pn9 pd9, .slice pa10 pn10 pd10, .string (FNode.name (ruleT 4 false k_pass k_every bl)), .bool (FNode.array (ruleT 4 false k_pass k_every bl)), .string (FNode.needed (ruleT 4 false k_pass k_every bl)), .string (FNode.left (ruleT 4 false k_pass k_every bl)), .slice sa4 sn4 sd4, .slice sa5 sn5 sd5, .slice sa6 sn6 sd6, .slice sa7 sn7 sd7, .slice sa8 sn8 sd8, .slice sa9 sn9 sd9, .slice sa10 sn10 sd10, .string (FNode.name tr), .bool (FNode.array tr), .string (FNode.needed tr), .string (FNode.left tr), .slice qa4 qn4 qd4, .slice qa5 qn5 qd5, .slice qa6 qn6 qd6, .slice qa7 qn7 qd7, .slice qa8 qn8 qd8, .slice qa9 qn9 qd9, .slice qa10 qn10 qd10] 30)) := (Below.refl _ _).alloc (Nat.le_refl _) _
    have H9 := ((h9.keep (hk _) (by simpa using n9)).shift shift_new).keep (Keep.of_below hbA) (by have := h9.lt; have := hb.size; simp only [List.mem_cons, not_or, List.not_mem_nil, not_false_eq_true, and_true]; exact ⟨by omega, n9⟩)
    have H10 := ((h10.keep (hk _) (by simpa using n10)).shift shift_new).keep (Keep.of_below hbA) (by have := h10.lt; have := hb.size; simp only [List.mem_cons, not_or, List.not_mem_nil, not_false_eq_true, and_true]; exact ⟨by omega, n10⟩)
    have H12 := ((h12.keep (hk _) (by simpa using n12)).shift shift_new).keep (Keep.of_below hbA) (by have := h12.lt; have := hb.size; simp only [List.mem_cons, not_or, List.not_mem_nil, not_false_eq_true, and_true]; exact ⟨by omega, n12⟩)
    have l9 := h9.lt
    have l10 := h10.lt
    have l12 := h12.lt
    have hbs := hb.size
    dsimp only [List.drop]
    simp only [fill, Act.put, List.setIfInBounds_toArray, List.set_cons_succ, List.set_cons_zero, Nat.zero_add, Nat.reduceAdd]
    refine wpList_plain rfl fun K1 hK1 => ?_
    refine op_buildSlice (vs := #[(0, .agg #[.string (FNode.name tq), .bool (FNode.array tq), .string (FNode.needed tq), .string (FNode.left tq), .slice pa4 pn4 pd4, .slice pa5 pn5 pd5, .slice pa6 pn6 pd6, .slice pa7 pn7 pd7, .slice pa8 pn8 pd8, .slice pa9 pn9 pd9, .slice pa10 pn10 pd10]), (1, .agg #[.string (FNode.name (ruleT 4 false k_pass k_every bl)), .bool (FNode.array (ruleT 4 false k_pass k_every bl)), .string (FNode.needed (ruleT 4 false k_pass k_every bl)), .string (FNode.left (ruleT 4 false k_pass k_every bl)), .slice sa4 sn4 sd4, .slice sa5 sn5 sd5, .slice sa6 sn6 sd6, .slice sa7 sn7 sd7, .slice sa8 sn8 sd8, .slice sa9 sn9 sd9, .slice sa10 sn10 sd10]), (2, .agg #[.string (FNode.name tr), .bool (FNode.array tr), .string (FNode.needed tr), .string (FNode.left tr), .slice qa4 qn4 qd4, .slice qa5 qn5 qd5, .slice qa6 qn6 qd6, .slice qa7 qn7 qd7, .slice qa8 qn8 qd8, .slice qa9 qn9 qd9, .slice qa10 qn10 qd10])]) (parts := #[(0, .tmp 74), (1, .tmp 76), (2, .tmp 77)]) rfl ?_ (run_forms3 _ _ _ _ _ _ _ _ _ _ _ _ _ _ _ _ _ _ _ _ _ _ _ _ _ _ _ _ _ _ _ _ _ _ ) ?_
    · rw [← h0, ← e2, ← h3]
      kernel_rfl
    · refine hK1 _ _ ?_
      clear hK1
      simp only [Act.put, List.setIfInBounds_toArray, List.set_cons_succ, List.set_cons_zero]
      clear hd h0 e2 h3 h2 hS hbA
      go_wp2
      refine HK.out _ _ (tail16 HS.out H9 H10 H12 ?_ ?_ ?_ (by simp))
      · simp only [List.mem_cons, not_or, List.not_mem_nil, not_false_eq_true, and_true]; exact ⟨by omega, n9⟩
      · simp only [List.mem_cons, not_or, List.not_mem_nil, not_false_eq_true, and_true]; exact ⟨by omega, n10⟩
      · simp only [List.mem_cons, not_or, List.not_mem_nil, not_false_eq_true, and_true]; exact ⟨by omega, n12⟩
end Go.Proofs.Qxb6601023a
