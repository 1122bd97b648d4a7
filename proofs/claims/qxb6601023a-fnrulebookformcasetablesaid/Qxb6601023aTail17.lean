/-
  OWN WORK. rulebookForm (20): the five tables that every rulebook has, appended.
-/
import Derived.Test.Qxb6601023aOps
namespace Go.Proofs.Qxb6601023a
open Go.RowKit Go.Flow
set_option linter.unusedVariables false
set_option linter.unusedSimpArgs false

/-- What is appended. -/
def five (tb tn : FTree 5) (bl : List ByteArray) : List (FTree 5) := [tb, tn, ruleT 4 false k_unlisted k_empty bl, keysT 4 k_consequence k_refuse [k_revocable_article], kindT bl]

/-- What each operation of the region yields. -/
def phi25 (X : List Nat) (st v9 v10 v12 f6 : Value) (tb tn : FTree 5) (bl : List ByteArray) : Nat → Value → World → Prop
  | 0, v, _ => v = st
  | 1, v, _ => v = v9
  | 2, v, _ => v = v10
  | 3, v, _ => v = f6
  | 4, v, w => FormIs X 5 w v (ruleT 4 false k_unlisted k_empty bl)
  | 5, v, w => Strs X w v [k_revocable_article]
  | 6, v, w => FormIs X 5 w v (keysT 4 k_consequence k_refuse [k_revocable_article])
  | 7, v, w => Strs X w v [k_name]
  | 8, v, _ => v = f6
  | 9, v, w => FormIs X 4 w v (ruleT 3 false k_pass k_empty bl)
  | 10, v, _ => v = v12
  | 11, v, w => Forms (FormIs X 4 w) X w v [ruleT 3 false k_pass k_empty bl, ruleT 3 true k_extra k_empty bl]
  | 12, v, w => FormIs X 5 w v (kindT bl)
  | 13, v, w => Forms (FormIs X 5 w) X w v (five tb tn bl)
  | _, _, _ => False

theorem phi25_keep {X : List Nat} {st v9 v10 v12 f6 : Value} {tb tn : FTree 5} {bl : List ByteArray} (i : Nat) (v : Value) (w1 w2 : World) (hi : i < 14) (h : phi25 X st v9 v10 v12 f6 tb tn bl i v w1) (hb : Below w1.heap.size w1 w2) : phi25 X st v9 v10 v12 f6 tb tn bl i v w2 := by
  have k : Keep X w1 w2 := Keep.of_below hb
  match i, h with
  | 0, h => exact h
  | 1, h => exact h
  | 2, h => exact h
  | 3, h => exact h
  | 4, h => exact FormIs.keep h k
  | 5, h => exact Strs.keep h k
  | 6, h => exact FormIs.keep h k
  | 7, h => exact Strs.keep h k
  | 8, h => exact h
  | 9, h => exact FormIs.keep h k
  | 10, h => exact h
  | 11, h => exact Forms.keep h k fun _ _ h => FormIs.keep h k
  | 12, h => exact FormIs.keep h k
  | 13, h => exact Forms.keep h k fun _ _ h => FormIs.keep h k

set_option maxRecDepth 100000 in
set_option maxHeartbeats 1000000 in
theorem tail17 {w0 w : World} {ts : List (FTree 5)} {tb tn : FTree 5} {board : Bool} {b2 b4 b5 b9 b10 b12 g : Nat} {st sb : Value} {css : List (List Value)} {bl : List ByteArray} {u0 u1 u4 u7 u8 u11 u14 u15 u16 u17 u18 u19 u20 u21 u22 u23 u24 u25 u26 u27 u28 u29 u30 u31 u32 u33 u34 u35 u36 u37 u38 u39 u40 u41 u42 u43 u44 u45 u46 u47 u48 u49 u50 u51 u52 u53 u54 u55 u56 u57 u58 u59 u60 u61 u62 u63 u64 u65 u66 u67 u68 u69 u70 u71 u72 u73 u74 u75 u76 u77 u78 u79 u80 u81 u82 u83 u84 u85 u86 u87 u88 u89 u90 u91 u92 u93 u94 u95 u96 u97 u98 u99 u100 u101 u102 u103 u104 u105 u106 u107 u108 u109 u110 u111 u112 u113 u114 u115 u116 u117 u118 u119 u120 u121 : Value} (h : St w0 w b2 b4 b5 bl g st sb css ts)
    (h9 : VarForm [g, b2] 5 w b9 tb) (h10 : VarForm [g, b2] 5 w b10 tn) (h12 : VarForm [g, b2] 4 w b12 (ruleT 3 true k_extra k_empty bl)) (hlen : ts.length ≤ 100) :
    Code.wp Try.prog (dropSeq 17 (Try.f20.body.getD .skip)) (bodyPost Try.prog Try.f20 (Post20 w0 (topT (ts ++ five tb tn bl ++ bdEnd board)))) ⟨#[u0, u1, .pointer (some ⟨b2, 0, none⟩), .bool board, u4, .pointer (some ⟨b5, 0, none⟩), .func (.func 43) #[] #[.pointer (some ⟨b5, 0, none⟩)], u7, u8, .pointer (some ⟨b9, 0, none⟩), .pointer (some ⟨b10, 0, none⟩), u11, .pointer (some ⟨b12, 0, none⟩), st, u14, u15, u16, u17, u18, u19, u20, u21, u22, u23, u24, u25, u26, u27, u28, u29, u30, u31, u32, u33, u34, u35, u36, u37, u38, u39, u40, u41, u42, u43, u44, u45, u46, u47, u48, u49, u50, u51, u52, u53, u54, u55, u56, u57, u58, u59, u60, u61, u62, u63, u64, u65, u66, u67, u68, u69, u70, u71, u72, u73, u74, u75, u76, u77, u78, u79, u80, u81, u82, u83, u84, u85, u86, u87, u88, u89, u90, u91, u92, u93, u94, u95, u96, u97, u98, u99, u100, u101, u102, u103, u104, u105, u106, u107, u108, u109, u110, u111, u112, u113, u114, u115, u116, u117, u118, u119, u120, u121], []⟩ w := by
  obtain ⟨cs9, hv9, hf9⟩ := h9
  obtain ⟨cs10, hv10, hf10⟩ := h10
  obtain ⟨cs12, hv12, hf12⟩ := h12
  obtain ⟨pa4, pn4, pd4, pa5, pn5, pd5, pa6, pn6, pd6, pa7, pn7, pd7, pa8, pn8, pd8, pa9, pn9, pd9, pa10, pn10, pd10, e9, -⟩ := hf9.open
  obtain ⟨qa4, qn4, qd4, qa5, qn5, qd5, qa6, qn6, qd6, qa7, qn7, qd7, qa8, qn8, qd8, qa9, qn9, qd9, qa10, qn10, qd10, e10, -⟩ := hf10.open
  obtain ⟨ra4, rn4, rd4, ra5, rn5, rd5, ra6, rn6, rd6, ra7, rn7, rd7, ra8, rn8, rd8, ra9, rn9, rd9, ra10, rn10, rd10, e12, -⟩ := hf12.open
  cases e9
  cases e10
  cases e12
  conv => arg 2; whnf
  dsimp only
  refine wp_seq_k fun K hK => ?_
  have HK : Hid (∀ a w, Code.wp Try.prog (dropSeq 18 (Try.f20.body.getD .skip)) (bodyPost Try.prog Try.f20 (Post20 w0 (topT (ts ++ five tb tn bl ++ bdEnd board)))) a w → K a w) := hK
  clear hK
  refine wp_region_flow 14 [88, 89, 90, 91, 92, 93, 94, 95, 96, 97, 98, 99, 100, 101] (phi25 [g, b2] st (.agg #[.string (FNode.name tb), .bool (FNode.array tb), .string (FNode.needed tb), .string (FNode.left tb), .slice pa4 pn4 pd4, .slice pa5 pn5 pd5, .slice pa6 pn6 pd6, .slice pa7 pn7 pd7, .slice pa8 pn8 pd8, .slice pa9 pn9 pd9, .slice pa10 pn10 pd10]) (.agg #[.string (FNode.name tn), .bool (FNode.array tn), .string (FNode.needed tn), .string (FNode.left tn), .slice qa4 qn4 qd4, .slice qa5 qn5 qd5, .slice qa6 qn6 qd6, .slice qa7 qn7 qd7, .slice qa8 qn8 qd8, .slice qa9 qn9 qd9, .slice qa10 qn10 qd10]) (.agg #[.string (FNode.name (ruleT 3 true k_extra k_empty bl)), .bool (FNode.array (ruleT 3 true k_extra k_empty bl)), .string (FNode.needed (ruleT 3 true k_extra k_empty bl)), .string (FNode.left (ruleT 3 true k_extra k_empty bl)), .slice ra4 rn4 rd4, .slice ra5 rn5 rd5, .slice ra6 rn6 rd6, .slice ra7 rn7 rd7, .slice ra8 rn8 rd8, .slice ra9 rn9 rd9, .slice ra10 rn10 rd10]) (.func (.func 43) #[] #[.pointer (some ⟨b5, 0, none⟩)]) tb tn bl) (by kernel_rfl) (by kernel_rfl) phi25_keep ?hop ?hend
  case hop =>
    intro i o hi ho vals w' hb hd
    have hk : ∀ Y, Keep Y w w' := fun Y => Keep.of_below hb
    have hX : ∀ k ∈ [g, b2], k < w.heap.size := by
      intro k hk
      simp at hk
      rcases hk with rfl | rfl
      · exact h.tabs.base.2
      · exact h.var2.1
    have hX' : ∀ k ∈ [g, b2], k < w'.heap.size := fun k hk => Nat.lt_of_lt_of_le (hX k hk) hb.size
    have ev13 : Act.eval (fill [88, 89, 90, 91, 92, 93, 94, 95, 96, 97, 98, 99, 100, 101] 0 vals ⟨#[u0, u1, .pointer (some ⟨b2, 0, none⟩), .bool board, u4, .pointer (some ⟨b5, 0, none⟩), .func (.func 43) #[] #[.pointer (some ⟨b5, 0, none⟩)], u7, u8, .pointer (some ⟨b9, 0, none⟩), .pointer (some ⟨b10, 0, none⟩), u11, .pointer (some ⟨b12, 0, none⟩), st, u14, u15, u16, u17, u18, u19, u20, u21, u22, u23, u24, u25, u26, u27, u28, u29, u30, u31, u32, u33, u34, u35, u36, u37, u38, u39, u40, u41, u42, u43, u44, u45, u46, u47, u48, u49, u50, u51, u52, u53, u54, u55, u56, u57, u58, u59, u60, u61, u62, u63, u64, u65, u66, u67, u68, u69, u70, u71, u72, u73, u74, u75, u76, u77, u78, u79, u80, u81, u82, u83, u84, u85, u86, u87, u88, u89, u90, u91, u92, u93, u94, u95, u96, u97, u98, u99, u100, u101, u102, u103, u104, u105, u106, u107, u108, u109, u110, u111, u112, u113, u114, u115, u116, u117, u118, u119, u120, u121], []⟩) (.tmp 13) = st := by kernel_rfl
    have ev9 : Act.eval (fill [88, 89, 90, 91, 92, 93, 94, 95, 96, 97, 98, 99, 100, 101] 0 vals ⟨#[u0, u1, .pointer (some ⟨b2, 0, none⟩), .bool board, u4, .pointer (some ⟨b5, 0, none⟩), .func (.func 43) #[] #[.pointer (some ⟨b5, 0, none⟩)], u7, u8, .pointer (some ⟨b9, 0, none⟩), .pointer (some ⟨b10, 0, none⟩), u11, .pointer (some ⟨b12, 0, none⟩), st, u14, u15, u16, u17, u18, u19, u20, u21, u22, u23, u24, u25, u26, u27, u28, u29, u30, u31, u32, u33, u34, u35, u36, u37, u38, u39, u40, u41, u42, u43, u44, u45, u46, u47, u48, u49, u50, u51, u52, u53, u54, u55, u56, u57, u58, u59, u60, u61, u62, u63, u64, u65, u66, u67, u68, u69, u70, u71, u72, u73, u74, u75, u76, u77, u78, u79, u80, u81, u82, u83, u84, u85, u86, u87, u88, u89, u90, u91, u92, u93, u94, u95, u96, u97, u98, u99, u100, u101, u102, u103, u104, u105, u106, u107, u108, u109, u110, u111, u112, u113, u114, u115, u116, u117, u118, u119, u120, u121], []⟩) (.tmp 9) = .pointer (some ⟨b9, 0, none⟩) := by kernel_rfl
    have ev10 : Act.eval (fill [88, 89, 90, 91, 92, 93, 94, 95, 96, 97, 98, 99, 100, 101] 0 vals ⟨#[u0, u1, .pointer (some ⟨b2, 0, none⟩), .bool board, u4, .pointer (some ⟨b5, 0, none⟩), .func (.func 43) #[] #[.pointer (some ⟨b5, 0, none⟩)], u7, u8, .pointer (some ⟨b9, 0, none⟩), .pointer (some ⟨b10, 0, none⟩), u11, .pointer (some ⟨b12, 0, none⟩), st, u14, u15, u16, u17, u18, u19, u20, u21, u22, u23, u24, u25, u26, u27, u28, u29, u30, u31, u32, u33, u34, u35, u36, u37, u38, u39, u40, u41, u42, u43, u44, u45, u46, u47, u48, u49, u50, u51, u52, u53, u54, u55, u56, u57, u58, u59, u60, u61, u62, u63, u64, u65, u66, u67, u68, u69, u70, u71, u72, u73, u74, u75, u76, u77, u78, u79, u80, u81, u82, u83, u84, u85, u86, u87, u88, u89, u90, u91, u92, u93, u94, u95, u96, u97, u98, u99, u100, u101, u102, u103, u104, u105, u106, u107, u108, u109, u110, u111, u112, u113, u114, u115, u116, u117, u118, u119, u120, u121], []⟩) (.tmp 10) = .pointer (some ⟨b10, 0, none⟩) := by kernel_rfl
    have ev12 : Act.eval (fill [88, 89, 90, 91, 92, 93, 94, 95, 96, 97, 98, 99, 100, 101] 0 vals ⟨#[u0, u1, .pointer (some ⟨b2, 0, none⟩), .bool board, u4, .pointer (some ⟨b5, 0, none⟩), .func (.func 43) #[] #[.pointer (some ⟨b5, 0, none⟩)], u7, u8, .pointer (some ⟨b9, 0, none⟩), .pointer (some ⟨b10, 0, none⟩), u11, .pointer (some ⟨b12, 0, none⟩), st, u14, u15, u16, u17, u18, u19, u20, u21, u22, u23, u24, u25, u26, u27, u28, u29, u30, u31, u32, u33, u34, u35, u36, u37, u38, u39, u40, u41, u42, u43, u44, u45, u46, u47, u48, u49, u50, u51, u52, u53, u54, u55, u56, u57, u58, u59, u60, u61, u62, u63, u64, u65, u66, u67, u68, u69, u70, u71, u72, u73, u74, u75, u76, u77, u78, u79, u80, u81, u82, u83, u84, u85, u86, u87, u88, u89, u90, u91, u92, u93, u94, u95, u96, u97, u98, u99, u100, u101, u102, u103, u104, u105, u106, u107, u108, u109, u110, u111, u112, u113, u114, u115, u116, u117, u118, u119, u120, u121], []⟩) (.tmp 12) = .pointer (some ⟨b12, 0, none⟩) := by kernel_rfl
    have ev6 : Act.eval (fill [88, 89, 90, 91, 92, 93, 94, 95, 96, 97, 98, 99, 100, 101] 0 vals ⟨#[u0, u1, .pointer (some ⟨b2, 0, none⟩), .bool board, u4, .pointer (some ⟨b5, 0, none⟩), .func (.func 43) #[] #[.pointer (some ⟨b5, 0, none⟩)], u7, u8, .pointer (some ⟨b9, 0, none⟩), .pointer (some ⟨b10, 0, none⟩), u11, .pointer (some ⟨b12, 0, none⟩), st, u14, u15, u16, u17, u18, u19, u20, u21, u22, u23, u24, u25, u26, u27, u28, u29, u30, u31, u32, u33, u34, u35, u36, u37, u38, u39, u40, u41, u42, u43, u44, u45, u46, u47, u48, u49, u50, u51, u52, u53, u54, u55, u56, u57, u58, u59, u60, u61, u62, u63, u64, u65, u66, u67, u68, u69, u70, u71, u72, u73, u74, u75, u76, u77, u78, u79, u80, u81, u82, u83, u84, u85, u86, u87, u88, u89, u90, u91, u92, u93, u94, u95, u96, u97, u98, u99, u100, u101, u102, u103, u104, u105, u106, u107, u108, u109, u110, u111, u112, u113, u114, u115, u116, u117, u118, u119, u120, u121], []⟩) (.tmp 6) = .func (.func 43) #[] #[.pointer (some ⟨b5, 0, none⟩)] := by kernel_rfl
    have ev88 : Act.eval (fill [88, 89, 90, 91, 92, 93, 94, 95, 96, 97, 98, 99, 100, 101] 0 vals ⟨#[u0, u1, .pointer (some ⟨b2, 0, none⟩), .bool board, u4, .pointer (some ⟨b5, 0, none⟩), .func (.func 43) #[] #[.pointer (some ⟨b5, 0, none⟩)], u7, u8, .pointer (some ⟨b9, 0, none⟩), .pointer (some ⟨b10, 0, none⟩), u11, .pointer (some ⟨b12, 0, none⟩), st, u14, u15, u16, u17, u18, u19, u20, u21, u22, u23, u24, u25, u26, u27, u28, u29, u30, u31, u32, u33, u34, u35, u36, u37, u38, u39, u40, u41, u42, u43, u44, u45, u46, u47, u48, u49, u50, u51, u52, u53, u54, u55, u56, u57, u58, u59, u60, u61, u62, u63, u64, u65, u66, u67, u68, u69, u70, u71, u72, u73, u74, u75, u76, u77, u78, u79, u80, u81, u82, u83, u84, u85, u86, u87, u88, u89, u90, u91, u92, u93, u94, u95, u96, u97, u98, u99, u100, u101, u102, u103, u104, u105, u106, u107, u108, u109, u110, u111, u112, u113, u114, u115, u116, u117, u118, u119, u120, u121], []⟩) (.tmp 88) = vals 0 := by kernel_rfl
    have ev89 : Act.eval (fill [88, 89, 90, 91, 92, 93, 94, 95, 96, 97, 98, 99, 100, 101] 0 vals ⟨#[u0, u1, .pointer (some ⟨b2, 0, none⟩), .bool board, u4, .pointer (some ⟨b5, 0, none⟩), .func (.func 43) #[] #[.pointer (some ⟨b5, 0, none⟩)], u7, u8, .pointer (some ⟨b9, 0, none⟩), .pointer (some ⟨b10, 0, none⟩), u11, .pointer (some ⟨b12, 0, none⟩), st, u14, u15, u16, u17, u18, u19, u20, u21, u22, u23, u24, u25, u26, u27, u28, u29, u30, u31, u32, u33, u34, u35, u36, u37, u38, u39, u40, u41, u42, u43, u44, u45, u46, u47, u48, u49, u50, u51, u52, u53, u54, u55, u56, u57, u58, u59, u60, u61, u62, u63, u64, u65, u66, u67, u68, u69, u70, u71, u72, u73, u74, u75, u76, u77, u78, u79, u80, u81, u82, u83, u84, u85, u86, u87, u88, u89, u90, u91, u92, u93, u94, u95, u96, u97, u98, u99, u100, u101, u102, u103, u104, u105, u106, u107, u108, u109, u110, u111, u112, u113, u114, u115, u116, u117, u118, u119, u120, u121], []⟩) (.tmp 89) = vals 1 := by kernel_rfl
    have ev90 : Act.eval (fill [88, 89, 90, 91, 92, 93, 94, 95, 96, 97, 98, 99, 100, 101] 0 vals ⟨#[u0, u1, .pointer (some ⟨b2, 0, none⟩), .bool board, u4, .pointer (some ⟨b5, 0, none⟩), .func (.func 43) #[] #[.pointer (some ⟨b5, 0, none⟩)], u7, u8, .pointer (some ⟨b9, 0, none⟩), .pointer (some ⟨b10, 0, none⟩), u11, .pointer (some ⟨b12, 0, none⟩), st, u14, u15, u16, u17, u18, u19, u20, u21, u22, u23, u24, u25, u26, u27, u28, u29, u30, u31, u32, u33, u34, u35, u36, u37, u38, u39, u40, u41, u42, u43, u44, u45, u46, u47, u48, u49, u50, u51, u52, u53, u54, u55, u56, u57, u58, u59, u60, u61, u62, u63, u64, u65, u66, u67, u68, u69, u70, u71, u72, u73, u74, u75, u76, u77, u78, u79, u80, u81, u82, u83, u84, u85, u86, u87, u88, u89, u90, u91, u92, u93, u94, u95, u96, u97, u98, u99, u100, u101, u102, u103, u104, u105, u106, u107, u108, u109, u110, u111, u112, u113, u114, u115, u116, u117, u118, u119, u120, u121], []⟩) (.tmp 90) = vals 2 := by kernel_rfl
    have ev91 : Act.eval (fill [88, 89, 90, 91, 92, 93, 94, 95, 96, 97, 98, 99, 100, 101] 0 vals ⟨#[u0, u1, .pointer (some ⟨b2, 0, none⟩), .bool board, u4, .pointer (some ⟨b5, 0, none⟩), .func (.func 43) #[] #[.pointer (some ⟨b5, 0, none⟩)], u7, u8, .pointer (some ⟨b9, 0, none⟩), .pointer (some ⟨b10, 0, none⟩), u11, .pointer (some ⟨b12, 0, none⟩), st, u14, u15, u16, u17, u18, u19, u20, u21, u22, u23, u24, u25, u26, u27, u28, u29, u30, u31, u32, u33, u34, u35, u36, u37, u38, u39, u40, u41, u42, u43, u44, u45, u46, u47, u48, u49, u50, u51, u52, u53, u54, u55, u56, u57, u58, u59, u60, u61, u62, u63, u64, u65, u66, u67, u68, u69, u70, u71, u72, u73, u74, u75, u76, u77, u78, u79, u80, u81, u82, u83, u84, u85, u86, u87, u88, u89, u90, u91, u92, u93, u94, u95, u96, u97, u98, u99, u100, u101, u102, u103, u104, u105, u106, u107, u108, u109, u110, u111, u112, u113, u114, u115, u116, u117, u118, u119, u120, u121], []⟩) (.tmp 91) = vals 3 := by kernel_rfl
    have ev92 : Act.eval (fill [88, 89, 90, 91, 92, 93, 94, 95, 96, 97, 98, 99, 100, 101] 0 vals ⟨#[u0, u1, .pointer (some ⟨b2, 0, none⟩), .bool board, u4, .pointer (some ⟨b5, 0, none⟩), .func (.func 43) #[] #[.pointer (some ⟨b5, 0, none⟩)], u7, u8, .pointer (some ⟨b9, 0, none⟩), .pointer (some ⟨b10, 0, none⟩), u11, .pointer (some ⟨b12, 0, none⟩), st, u14, u15, u16, u17, u18, u19, u20, u21, u22, u23, u24, u25, u26, u27, u28, u29, u30, u31, u32, u33, u34, u35, u36, u37, u38, u39, u40, u41, u42, u43, u44, u45, u46, u47, u48, u49, u50, u51, u52, u53, u54, u55, u56, u57, u58, u59, u60, u61, u62, u63, u64, u65, u66, u67, u68, u69, u70, u71, u72, u73, u74, u75, u76, u77, u78, u79, u80, u81, u82, u83, u84, u85, u86, u87, u88, u89, u90, u91, u92, u93, u94, u95, u96, u97, u98, u99, u100, u101, u102, u103, u104, u105, u106, u107, u108, u109, u110, u111, u112, u113, u114, u115, u116, u117, u118, u119, u120, u121], []⟩) (.tmp 92) = vals 4 := by kernel_rfl
    have ev93 : Act.eval (fill [88, 89, 90, 91, 92, 93, 94, 95, 96, 97, 98, 99, 100, 101] 0 vals ⟨#[u0, u1, .pointer (some ⟨b2, 0, none⟩), .bool board, u4, .pointer (some ⟨b5, 0, none⟩), .func (.func 43) #[] #[.pointer (some ⟨b5, 0, none⟩)], u7, u8, .pointer (some ⟨b9, 0, none⟩), .pointer (some ⟨b10, 0, none⟩), u11, .pointer (some ⟨b12, 0, none⟩), st, u14, u15, u16, u17, u18, u19, u20, u21, u22, u23, u24, u25, u26, u27, u28, u29, u30, u31, u32, u33, u34, u35, u36, u37, u38, u39, u40, u41, u42, u43, u44, u45, u46, u47, u48, u49, u50, u51, u52, u53, u54, u55, u56, u57, u58, u59, u60, u61, u62, u63, u64, u65, u66, u67, u68, u69, u70, u71, u72, u73, u74, u75, u76, u77, u78, u79, u80, u81, u82, u83, u84, u85, u86, u87, u88, u89, u90, u91, u92, u93, u94, u95, u96, u97, u98, u99, u100, u101, u102, u103, u104, u105, u106, u107, u108, u109, u110, u111, u112, u113, u114, u115, u116, u117, u118, u119, u120, u121], []⟩) (.tmp 93) = vals 5 := by kernel_rfl
    have ev94 : Act.eval (fill [88, 89, 90, 91, 92, 93, 94, 95, 96, 97, 98, 99, 100, 101] 0 vals ⟨#[u0, u1, .pointer (some ⟨b2, 0, none⟩), .bool board, u4, .pointer (some ⟨b5, 0, none⟩), .func (.func 43) #[] #[.pointer (some ⟨b5, 0, none⟩)], u7, u8, .pointer (some ⟨b9, 0, none⟩), .pointer (some ⟨b10, 0, none⟩), u11, .pointer (some ⟨b12, 0, none⟩), st, u14, u15, u16, u17, u18, u19, u20, u21, u22, u23, u24, u25, u26, u27, u28, u29, u30, u31, u32, u33, u34, u35, u36, u37, u38, u39, u40, u41, u42, u43, u44, u45, u46, u47, u48, u49, u50, u51, u52, u53, u54, u55, u56, u57, u58, u59, u60, u61, u62, u63, u64, u65, u66, u67, u68, u69, u70, u71, u72, u73, u74, u75, u76, u77, u78, u79, u80, u81, u82, u83, u84, u85, u86, u87, u88, u89, u90, u91, u92, u93, u94, u95, u96, u97, u98, u99, u100, u101, u102, u103, u104, u105, u106, u107, u108, u109, u110, u111, u112, u113, u114, u115, u116, u117, u118, u119, u120, u121], []⟩) (.tmp 94) = vals 6 := by kernel_rfl
    have ev95 : Act.eval (fill [88, 89, 90, 91, 92, 93, 94, 95, 96, 97, 98, 99, 100, 101] 0 vals ⟨#[u0, u1, .pointer (some ⟨b2, 0, none⟩), .bool board, u4, .pointer (some ⟨b5, 0, none⟩), .func (.func 43) #[] #[.pointer (some ⟨b5, 0, none⟩)], u7, u8, .pointer (some ⟨b9, 0, none⟩), .pointer (some ⟨b10, 0, none⟩), u11, .pointer (some ⟨b12, 0, none⟩), st, u14, u15, u16, u17, u18, u19, u20, u21, u22, u23, u24, u25, u26, u27, u28, u29, u30, u31, u32, u33, u34, u35, u36, u37, u38, u39, u40, u41, u42, u43, u44, u45, u46, u47, u48, u49, u50, u51, u52, u53, u54, u55, u56, u57, u58, u59, u60, u61, u62, u63, u64, u65, u66, u67, u68, u69, u70, u71, u72, u73, u74, u75, u76, u77, u78, u79, u80, u81, u82, u83, u84, u85, u86, u87, u88, u89, u90, u91, u92, u93, u94, u95, u96, u97, u98, u99, u100, u101, u102, u103, u104, u105, u106, u107, u108, u109, u110, u111, u112, u113, u114, u115, u116, u117, u118, u119, u120, u121], []⟩) (.tmp 95) = vals 7 := by kernel_rfl
    have ev96 : Act.eval (fill [88, 89, 90, 91, 92, 93, 94, 95, 96, 97, 98, 99, 100, 101] 0 vals ⟨#[u0, u1, .pointer (some ⟨b2, 0, none⟩), .bool board, u4, .pointer (some ⟨b5, 0, none⟩), .func (.func 43) #[] #[.pointer (some ⟨b5, 0, none⟩)], u7, u8, .pointer (some ⟨b9, 0, none⟩), .pointer (some ⟨b10, 0, none⟩), u11, .pointer (some ⟨b12, 0, none⟩), st, u14, u15, u16, u17, u18, u19, u20, u21, u22, u23, u24, u25, u26, u27, u28, u29, u30, u31, u32, u33, u34, u35, u36, u37, u38, u39, u40, u41, u42, u43, u44, u45, u46, u47, u48, u49, u50, u51, u52, u53, u54, u55, u56, u57, u58, u59, u60, u61, u62, u63, u64, u65, u66, u67, u68, u69, u70, u71, u72, u73, u74, u75, u76, u77, u78, u79, u80, u81, u82, u83, u84, u85, u86, u87, u88, u89, u90, u91, u92, u93, u94, u95, u96, u97, u98, u99, u100, u101, u102, u103, u104, u105, u106, u107, u108, u109, u110, u111, u112, u113, u114, u115, u116, u117, u118, u119, u120, u121], []⟩) (.tmp 96) = vals 8 := by kernel_rfl
    have ev97 : Act.eval (fill [88, 89, 90, 91, 92, 93, 94, 95, 96, 97, 98, 99, 100, 101] 0 vals ⟨#[u0, u1, .pointer (some ⟨b2, 0, none⟩), .bool board, u4, .pointer (some ⟨b5, 0, none⟩), .func (.func 43) #[] #[.pointer (some ⟨b5, 0, none⟩)], u7, u8, .pointer (some ⟨b9, 0, none⟩), .pointer (some ⟨b10, 0, none⟩), u11, .pointer (some ⟨b12, 0, none⟩), st, u14, u15, u16, u17, u18, u19, u20, u21, u22, u23, u24, u25, u26, u27, u28, u29, u30, u31, u32, u33, u34, u35, u36, u37, u38, u39, u40, u41, u42, u43, u44, u45, u46, u47, u48, u49, u50, u51, u52, u53, u54, u55, u56, u57, u58, u59, u60, u61, u62, u63, u64, u65, u66, u67, u68, u69, u70, u71, u72, u73, u74, u75, u76, u77, u78, u79, u80, u81, u82, u83, u84, u85, u86, u87, u88, u89, u90, u91, u92, u93, u94, u95, u96, u97, u98, u99, u100, u101, u102, u103, u104, u105, u106, u107, u108, u109, u110, u111, u112, u113, u114, u115, u116, u117, u118, u119, u120, u121], []⟩) (.tmp 97) = vals 9 := by kernel_rfl
    have ev98 : Act.eval (fill [88, 89, 90, 91, 92, 93, 94, 95, 96, 97, 98, 99, 100, 101] 0 vals ⟨#[u0, u1, .pointer (some ⟨b2, 0, none⟩), .bool board, u4, .pointer (some ⟨b5, 0, none⟩), .func (.func 43) #[] #[.pointer (some ⟨b5, 0, none⟩)], u7, u8, .pointer (some ⟨b9, 0, none⟩), .pointer (some ⟨b10, 0, none⟩), u11, .pointer (some ⟨b12, 0, none⟩), st, u14, u15, u16, u17, u18, u19, u20, u21, u22, u23, u24, u25, u26, u27, u28, u29, u30, u31, u32, u33, u34, u35, u36, u37, u38, u39, u40, u41, u42, u43, u44, u45, u46, u47, u48, u49, u50, u51, u52, u53, u54, u55, u56, u57, u58, u59, u60, u61, u62, u63, u64, u65, u66, u67, u68, u69, u70, u71, u72, u73, u74, u75, u76, u77, u78, u79, u80, u81, u82, u83, u84, u85, u86, u87, u88, u89, u90, u91, u92, u93, u94, u95, u96, u97, u98, u99, u100, u101, u102, u103, u104, u105, u106, u107, u108, u109, u110, u111, u112, u113, u114, u115, u116, u117, u118, u119, u120, u121], []⟩) (.tmp 98) = vals 10 := by kernel_rfl
    have ev99 : Act.eval (fill [88, 89, 90, 91, 92, 93, 94, 95, 96, 97, 98, 99, 100, 101] 0 vals ⟨#[u0, u1, .pointer (some ⟨b2, 0, none⟩), .bool board, u4, .pointer (some ⟨b5, 0, none⟩), .func (.func 43) #[] #[.pointer (some ⟨b5, 0, none⟩)], u7, u8, .pointer (some ⟨b9, 0, none⟩), .pointer (some ⟨b10, 0, none⟩), u11, .pointer (some ⟨b12, 0, none⟩), st, u14, u15, u16, u17, u18, u19, u20, u21, u22, u23, u24, u25, u26, u27, u28, u29, u30, u31, u32, u33, u34, u35, u36, u37, u38, u39, u40, u41, u42, u43, u44, u45, u46, u47, u48, u49, u50, u51, u52, u53, u54, u55, u56, u57, u58, u59, u60, u61, u62, u63, u64, u65, u66, u67, u68, u69, u70, u71, u72, u73, u74, u75, u76, u77, u78, u79, u80, u81, u82, u83, u84, u85, u86, u87, u88, u89, u90, u91, u92, u93, u94, u95, u96, u97, u98, u99, u100, u101, u102, u103, u104, u105, u106, u107, u108, u109, u110, u111, u112, u113, u114, u115, u116, u117, u118, u119, u120, u121], []⟩) (.tmp 99) = vals 11 := by kernel_rfl
    have ev100 : Act.eval (fill [88, 89, 90, 91, 92, 93, 94, 95, 96, 97, 98, 99, 100, 101] 0 vals ⟨#[u0, u1, .pointer (some ⟨b2, 0, none⟩), .bool board, u4, .pointer (some ⟨b5, 0, none⟩), .func (.func 43) #[] #[.pointer (some ⟨b5, 0, none⟩)], u7, u8, .pointer (some ⟨b9, 0, none⟩), .pointer (some ⟨b10, 0, none⟩), u11, .pointer (some ⟨b12, 0, none⟩), st, u14, u15, u16, u17, u18, u19, u20, u21, u22, u23, u24, u25, u26, u27, u28, u29, u30, u31, u32, u33, u34, u35, u36, u37, u38, u39, u40, u41, u42, u43, u44, u45, u46, u47, u48, u49, u50, u51, u52, u53, u54, u55, u56, u57, u58, u59, u60, u61, u62, u63, u64, u65, u66, u67, u68, u69, u70, u71, u72, u73, u74, u75, u76, u77, u78, u79, u80, u81, u82, u83, u84, u85, u86, u87, u88, u89, u90, u91, u92, u93, u94, u95, u96, u97, u98, u99, u100, u101, u102, u103, u104, u105, u106, u107, u108, u109, u110, u111, u112, u113, u114, u115, u116, u117, u118, u119, u120, u121], []⟩) (.tmp 100) = vals 12 := by kernel_rfl
    have ev101 : Act.eval (fill [88, 89, 90, 91, 92, 93, 94, 95, 96, 97, 98, 99, 100, 101] 0 vals ⟨#[u0, u1, .pointer (some ⟨b2, 0, none⟩), .bool board, u4, .pointer (some ⟨b5, 0, none⟩), .func (.func 43) #[] #[.pointer (some ⟨b5, 0, none⟩)], u7, u8, .pointer (some ⟨b9, 0, none⟩), .pointer (some ⟨b10, 0, none⟩), u11, .pointer (some ⟨b12, 0, none⟩), st, u14, u15, u16, u17, u18, u19, u20, u21, u22, u23, u24, u25, u26, u27, u28, u29, u30, u31, u32, u33, u34, u35, u36, u37, u38, u39, u40, u41, u42, u43, u44, u45, u46, u47, u48, u49, u50, u51, u52, u53, u54, u55, u56, u57, u58, u59, u60, u61, u62, u63, u64, u65, u66, u67, u68, u69, u70, u71, u72, u73, u74, u75, u76, u77, u78, u79, u80, u81, u82, u83, u84, u85, u86, u87, u88, u89, u90, u91, u92, u93, u94, u95, u96, u97, u98, u99, u100, u101, u102, u103, u104, u105, u106, u107, u108, u109, u110, u111, u112, u113, u114, u115, u116, u117, u118, u119, u120, u121], []⟩) (.tmp 101) = vals 13 := by kernel_rfl
    generalize fill [88, 89, 90, 91, 92, 93, 94, 95, 96, 97, 98, 99, 100, 101] 0 vals ⟨#[u0, u1, .pointer (some ⟨b2, 0, none⟩), .bool board, u4, .pointer (some ⟨b5, 0, none⟩), .func (.func 43) #[] #[.pointer (some ⟨b5, 0, none⟩)], u7, u8, .pointer (some ⟨b9, 0, none⟩), .pointer (some ⟨b10, 0, none⟩), u11, .pointer (some ⟨b12, 0, none⟩), st, u14, u15, u16, u17, u18, u19, u20, u21, u22, u23, u24, u25, u26, u27, u28, u29, u30, u31, u32, u33, u34, u35, u36, u37, u38, u39, u40, u41, u42, u43, u44, u45, u46, u47, u48, u49, u50, u51, u52, u53, u54, u55, u56, u57, u58, u59, u60, u61, u62, u63, u64, u65, u66, u67, u68, u69, u70, u71, u72, u73, u74, u75, u76, u77, u78, u79, u80, u81, u82, u83, u84, u85, u86, u87, u88, u89, u90, u91, u92, u93, u94, u95, u96, u97, u98, u99, u100, u101, u102, u103, u104, u105, u106, u107, u108, u109, u110, u111, u112, u113, u114, u115, u116, u117, u118, u119, u120, u121], []⟩ = F at *
    have hi' : i = 0 ∨ i = 1 ∨ i = 2 ∨ i = 3 ∨ i = 4 ∨ i = 5 ∨ i = 6 ∨ i = 7 ∨ i = 8 ∨ i = 9 ∨ i = 10 ∨ i = 11 ∨ i = 12 ∨ i = 13 := by omega
    rcases hi' with rfl | rfl | rfl | rfl | rfl | rfl | rfl | rfl | rfl | rfl | rfl | rfl | rfl | rfl
    all_goals simp only [List.getElem?_cons_zero, List.getElem?_cons_succ, Option.some.injEq] at ho
    all_goals subst ho
    · refine op_move (x := .tmp 13) rfl ev13 ?_
      exact ⟨_, rfl, Below.refl _ _, rfl⟩
    · refine op_load (x := .tmp 9) rfl ev9 (run_load30 (hv9.keep (hk []) (by simp))) ?_
      exact ⟨_, rfl, Below.refl _ _, rfl⟩
    · refine op_load (x := .tmp 10) rfl ev10 (run_load30 (hv10.keep (hk []) (by simp))) ?_
      exact ⟨_, rfl, Below.refl _ _, rfl⟩
    · refine op_move (x := .tmp 6) rfl ev6 ?_
      exact ⟨_, rfl, Below.refl _ _, rfl⟩
    · have h3 : vals 3 = .func (.func 43) #[] #[.pointer (some ⟨b5, 0, none⟩)] := hd ⟨3, .data⟩ (by simp) rfl
      refine op_closure (x := .tmp 91) (s1 := .string k_unlisted) (s2 := .string k_empty) (p := .pointer (some ⟨b5, 0, none⟩)) (f := 43) rfl (ev91.trans h3) (fun w => Try.call43 _ w) ?_
      refine (rule43 (X := [g, b2]) k_unlisted k_empty b4 b5 hX' (cell_up hb h.l5 h.c5) (Nat.lt_of_lt_of_le h.l5 hb.size) (cell_up hb h.l4 h.c4) (Nat.lt_of_lt_of_le h.l4 hb.size) (h.bases.keep (hk _))).mono ?_
      rintro e w2 ⟨v, rfl, hf, hbel, -⟩
      exact ⟨v, rfl, v, rfl, hbel, hf 4⟩
    · refine op_buildSlice (vs := #[(0, .string k_revocable_article)]) rfl (by simp only [List.map_toArray, List.map_cons, List.map_nil, eval_const]) (run_strs1 _ _) ?_
      exact ⟨_, rfl, (Below.refl _ _).alloc (Nat.le_refl _) _, strsLit (blk_top _ _ rfl) (not_mem_of_lt hX' (Nat.le_refl _)) rfl (by decide) rfl rfl⟩
    · have h5 : Strs [g, b2] w' (vals 5) [k_revocable_article] := hd ⟨5, .data⟩ (by simp) rfl
      obtain ⟨a, c, e5, -⟩ := Own.form h5
      refine op_build (vs := #[(0, .string k_consequence), (3, .string k_refuse), (4, .slice a 1 c)]) rfl ?_ (run_build_keys _ _ _ _ _ _) ?_
      · simp only [List.map_toArray, List.map_cons, List.map_nil, eval_const, ev93, e5]; rfl
      · exact ⟨_, rfl, Below.refl _ _, leafIs (by rw [e5] at h5; exact h5) (Own.nil _ _ _ _)⟩
    · refine op_buildSlice (vs := #[(0, .string k_name)]) rfl (by simp only [List.map_toArray, List.map_cons, List.map_nil, eval_const]) (run_strs1 _ _) ?_
      exact ⟨_, rfl, (Below.refl _ _).alloc (Nat.le_refl _) _, strsLit (blk_top _ _ rfl) (not_mem_of_lt hX' (Nat.le_refl _)) rfl (by decide) rfl rfl⟩
    · refine op_move (x := .tmp 6) rfl ev6 ?_
      exact ⟨_, rfl, Below.refl _ _, rfl⟩
    · have h8 : vals 8 = .func (.func 43) #[] #[.pointer (some ⟨b5, 0, none⟩)] := hd ⟨8, .data⟩ (by simp) rfl
      refine op_closure (x := .tmp 96) (s1 := .string k_pass) (s2 := .string k_empty) (p := .pointer (some ⟨b5, 0, none⟩)) (f := 43) rfl (ev96.trans h8) (fun w => Try.call43 _ w) ?_
      refine (rule43 (X := [g, b2]) k_pass k_empty b4 b5 hX' (cell_up hb h.l5 h.c5) (Nat.lt_of_lt_of_le h.l5 hb.size) (cell_up hb h.l4 h.c4) (Nat.lt_of_lt_of_le h.l4 hb.size) (h.bases.keep (hk _))).mono ?_
      rintro e w2 ⟨v, rfl, hf, hbel, -⟩
      exact ⟨v, rfl, v, rfl, hbel, hf 3⟩
    · refine op_load (x := .tmp 12) rfl ev12 (run_load30 (hv12.keep (hk []) (by simp))) ?_
      exact ⟨_, rfl, Below.refl _ _, rfl⟩
    · have h9 : FormIs [g, b2] 4 w' (vals 9) (ruleT 3 false k_pass k_empty bl) := hd ⟨9, .data⟩ (by simp) rfl
      have h10 : vals 10 = .agg #[.string (FNode.name (ruleT 3 true k_extra k_empty bl)), .bool (FNode.array (ruleT 3 true k_extra k_empty bl)), .string (FNode.needed (ruleT 3 true k_extra k_empty bl)), .string (FNode.left (ruleT 3 true k_extra k_empty bl)), .slice ra4 rn4 rd4, .slice ra5 rn5 rd5, .slice ra6 rn6 rd6, .slice ra7 rn7 rd7, .slice ra8 rn8 rd8, .slice ra9 rn9 rd9, .slice ra10 rn10 rd10] := hd ⟨10, .data⟩ (by simp) rfl
      obtain ⟨sa4, sn4, sd4, sa5, sn5, sd5, sa6, sn6, sd6, sa7, sn7, sd7, sa8, sn8, sd8, sa9, sn9, sd9, sa10, sn10, sd10, e9, -⟩ := h9.open
      rw [e9] at h9
      refine op_buildSlice (vs := #[(0, .agg #[.string (FNode.name (ruleT 3 false k_pass k_empty bl)), .bool (FNode.array (ruleT 3 false k_pass k_empty bl)), .string (FNode.needed (ruleT 3 false k_pass k_empty bl)), .string (FNode.left (ruleT 3 false k_pass k_empty bl)), .slice sa4 sn4 sd4, .slice sa5 sn5 sd5, .slice sa6 sn6 sd6, .slice sa7 sn7 sd7, .slice sa8 sn8 sd8, .slice sa9 sn9 sd9, .slice sa10 sn10 sd10]), (1, .agg #[.string (FNode.name (ruleT 3 true k_extra k_empty bl)), .bool (FNode.array (ruleT 3 true k_extra k_empty bl)), .string (FNode.needed (ruleT 3 true k_extra k_empty bl)), .string (FNode.left (ruleT 3 true k_extra k_empty bl)), .slice ra4 rn4 rd4, .slice ra5 rn5 rd5, .slice ra6 rn6 rd6, .slice ra7 rn7 rd7, .slice ra8 rn8 rd8, .slice ra9 rn9 rd9, .slice ra10 rn10 rd10])]) rfl ?_ (run_forms2 _ _ _ _ _ _ _ _ _ _ _ _ _ _ _ _ _ _ _ _ _ _ _) ?_
      · simp only [List.map_toArray, List.map_cons, List.map_nil, eval_const, ev97, ev98, e9, h10]
      · exact ⟨_, rfl, (Below.refl _ _).alloc (Nat.le_refl _) _, formsLit [_, _] (blk_top _ _ rfl) (not_mem_of_lt hX' (Nat.le_refl _)) rfl (by decide) rfl rfl rfl (two_forms rfl (h9.keep ((Keep.refl _ _).alloc _)) rfl (hf12.keep ((hk _).alloc _)))⟩
    · have h7 : Strs [g, b2] w' (vals 7) [k_name] := hd ⟨7, .data⟩ (by simp) rfl
      have h11 : Forms (FormIs [g, b2] 4 w') [g, b2] w' (vals 11) [ruleT 3 false k_pass k_empty bl, ruleT 3 true k_extra k_empty bl] := hd ⟨11, .data⟩ (by simp) rfl
      obtain ⟨a, c, e7, -⟩ := Own.form h7
      obtain ⟨cs', o11, r11⟩ := id h11
      obtain ⟨a', c', e11, -⟩ := Own.form o11
      rw [e7] at h7
      rw [e11] at h11
      refine op_build (vs := #[(0, .string k_kind), (1, .bool true), (3, .string k_no_rule), (4, .slice a 1 c), (10, .slice a' 2 c')]) rfl ?_ (run_build_kind _ _ _ _ _ _ _ _ _) ?_
      · simp only [List.map_toArray, List.map_cons, List.map_nil, eval_const, ev95, ev99, e7, e11]; rfl
      · exact ⟨_, rfl, Below.refl _ _, _, _, _, _, _, _, _, rfl, h7, Own.nil _ _ _ _, noGroups _ _, Own.nil _ _ _ _, Own.nil _ _ _ _, Own.nil _ _ _ _, h11⟩
    · have h1 : vals 1 = .agg #[.string (FNode.name tb), .bool (FNode.array tb), .string (FNode.needed tb), .string (FNode.left tb), .slice pa4 pn4 pd4, .slice pa5 pn5 pd5, .slice pa6 pn6 pd6, .slice pa7 pn7 pd7, .slice pa8 pn8 pd8, .slice pa9 pn9 pd9, .slice pa10 pn10 pd10] := hd ⟨1, .data⟩ (by simp) rfl
      have h2 : vals 2 = .agg #[.string (FNode.name tn), .bool (FNode.array tn), .string (FNode.needed tn), .string (FNode.left tn), .slice qa4 qn4 qd4, .slice qa5 qn5 qd5, .slice qa6 qn6 qd6, .slice qa7 qn7 qd7, .slice qa8 qn8 qd8, .slice qa9 qn9 qd9, .slice qa10 qn10 qd10] := hd ⟨2, .data⟩ (by simp) rfl
      have h4 : FormIs [g, b2] 5 w' (vals 4) (ruleT 4 false k_unlisted k_empty bl) := hd ⟨4, .data⟩ (by simp) rfl
      have h6 : FormIs [g, b2] 5 w' (vals 6) (keysT 4 k_consequence k_refuse [k_revocable_article]) := hd ⟨6, .data⟩ (by simp) rfl
      have h12 : FormIs [g, b2] 5 w' (vals 12) (kindT bl) := hd ⟨12, .data⟩ (by simp) rfl
      obtain ⟨sa4, sn4, sd4, sa5, sn5, sd5, sa6, sn6, sd6, sa7, sn7, sd7, sa8, sn8, sd8, sa9, sn9, sd9, sa10, sn10, sd10, e4, -⟩ := h4.open
      obtain ⟨ta4, tn4, td4, ta5, tn5, td5, ta6, tn6, td6, ta7, tn7, td7, ta8, tn8, td8, ta9, tn9, td9, ta10, tn10, td10, e6, -⟩ := h6.open
      obtain ⟨va4, vn4, vd4, va5, vn5, vd5, va6, vn6, vd6, va7, vn7, vd7, va8, vn8, vd8, va9, vn9, vd9, va10, vn10, vd10, e12, -⟩ := h12.open
      rw [e4] at h4
      rw [e6] at h6
      rw [e12] at h12
      refine op_buildSlice (vs := #[(0, .agg #[.string (FNode.name tb), .bool (FNode.array tb), .string (FNode.needed tb), .string (FNode.left tb), .slice pa4 pn4 pd4, .slice pa5 pn5 pd5, .slice pa6 pn6 pd6, .slice pa7 pn7 pd7, .slice pa8 pn8 pd8, .slice pa9 pn9 pd9, .slice pa10 pn10 pd10]), (1, .agg #[.string (FNode.name tn), .bool (FNode.array tn), .string (FNode.needed tn), .string (FNode.left tn), .slice qa4 qn4 qd4, .slice qa5 qn5 qd5, .slice qa6 qn6 qd6, .slice qa7 qn7 qd7, .slice qa8 qn8 qd8, .slice qa9 qn9 qd9, .slice qa10 qn10 qd10]), (2, .agg #[.string (FNode.name (ruleT 4 false k_unlisted k_empty bl)), .bool (FNode.array (ruleT 4 false k_unlisted k_empty bl)), .string (FNode.needed (ruleT 4 false k_unlisted k_empty bl)), .string (FNode.left (ruleT 4 false k_unlisted k_empty bl)), .slice sa4 sn4 sd4, .slice sa5 sn5 sd5, .slice sa6 sn6 sd6, .slice sa7 sn7 sd7, .slice sa8 sn8 sd8, .slice sa9 sn9 sd9, .slice sa10 sn10 sd10]), (3, .agg #[.string (FNode.name (keysT 4 k_consequence k_refuse [k_revocable_article])), .bool (FNode.array (keysT 4 k_consequence k_refuse [k_revocable_article])), .string (FNode.needed (keysT 4 k_consequence k_refuse [k_revocable_article])), .string (FNode.left (keysT 4 k_consequence k_refuse [k_revocable_article])), .slice ta4 tn4 td4, .slice ta5 tn5 td5, .slice ta6 tn6 td6, .slice ta7 tn7 td7, .slice ta8 tn8 td8, .slice ta9 tn9 td9, .slice ta10 tn10 td10]), (4, .agg #[.string (FNode.name (kindT bl)), .bool (FNode.array (kindT bl)), .string (FNode.needed (kindT bl)), .string (FNode.left (kindT bl)), .slice va4 vn4 vd4, .slice va5 vn5 vd5, .slice va6 vn6 vd6, .slice va7 vn7 vd7, .slice va8 vn8 vd8, .slice va9 vn9 vd9, .slice va10 vn10 vd10])]) rfl ?_ (run_forms5 _ _ _ _ _ _ _ _ _ _ _ _ _ _ _ _ _ _ _ _ _ _ _ _ _ _ _ _ _ _ _ _ _ _ _ _ _ _ _ _ _ _ _ _ _ _ _ _ _ _ _ _ _ _ _ _ ) ?_
      · simp only [List.map_toArray, List.map_cons, List.map_nil, eval_const, ev89, ev90, ev92, ev94, ev100, h1, h2, e4, e6, e12]
      · exact ⟨_, rfl, (Below.refl _ _).alloc (Nat.le_refl _) _, formsLit [_, _, _, _, _] (blk_top _ _ rfl) (not_mem_of_lt hX' (Nat.le_refl _)) rfl (by decide) rfl rfl rfl (more_forms rfl (hf9.keep ((hk _).alloc _)) (more_forms rfl (hf10.keep ((hk _).alloc _)) (more_forms rfl (h4.keep ((Keep.refl _ _).alloc _)) (two_forms rfl (h6.keep ((Keep.refl _ _).alloc _)) rfl (h12.keep ((Keep.refl _ _).alloc _))))))⟩
  case hend =>
    intro vals w' hb hd
    have hk : ∀ Y, Keep Y w w' := fun Y => Keep.of_below hb
    have h0 : vals 0 = st := hd 0 (by omega)
    have h13 : Forms (FormIs [g, b2] 5 w') [g, b2] w' (vals 13) (five tb tn bl) := hd 13 (by omega)
    obtain ⟨ncs, own13, nl, neach⟩ := h13
    have hT := h.tabs.keep (hk [b2])
    have h1 : ∀ u ∈ ncs.flatten, u.oneCell' = true := by
      intro u hu
      obtain ⟨c, hc, huc⟩ := List.mem_flatten.1 hu
      obtain ⟨k, hk, rfl⟩ := List.mem_iff_getElem.1 hc
      obtain ⟨-, hf⟩ := neach k _ _ (List.getElem?_eq_getElem hk) (List.getElem?_eq_getElem (by omega))
      obtain ⟨cs', e1, -, e3⟩ := hf.one
      have : ncs[k] = cs' := by simpa using e1
      exact e3 u (this ▸ huc)
    dsimp only [List.drop]
    simp only [fill, Act.put, List.setIfInBounds_toArray, List.set_cons_succ, List.set_cons_zero, Nat.zero_add, Nat.reduceAdd]
    refine wpl_append_forms rfl (.tmp 88) (.tmp 101) rfl w0.heap.size (vals 0) ts.length css.flatten rfl (by rw [h0]; exact hT.own) 0 (vals 13) 5 ncs.flatten rfl own13.1 h1 (by omega) (Nat.le_trans h.below.size hb.size) ?_
    intro v' w2 hown2 hgrow hat
    rw [h0] at hgrow hat
    obtain ⟨g', hg', hS⟩ := (h.grow hb).append nl neach (by simp [five]; omega) hown2 hgrow hat
    have HS : Hid (St w0 w2 b2 b4 b5 bl g' v' sb (css ++ ncs) (ts ++ five tb tn bl)) := hS
    clear hS hg' hown2 hgrow hat h1 hT neach nl own13 hd
    go_wp2
    exact HK.out _ _ (tail18 HS.out)
end Go.Proofs.Qxb6601023a
