/-
  OWN WORK. zzWellFormed_b1 (12): what 'well formed' says of a tree; the last statements of the walk.
-/
import Derived.Test.Qxb6601023aNames
import Derived.Test.Qxb6601023aHas
namespace Go.Proofs.Qxb6601023a
open Go.RowKit Go.Flow
set_option linter.unusedVariables false
set_option linter.unusedSimpArgs false

def nameOf : (n : Nat) → FTree n → ByteArray
  | 0, t => nomatch t
  | _ + 1, t => FNode.name t

/-- All names that a table gives. -/
def allOf {n : Nat} (t : FTree (n + 1)) : List ByteArray := namesL (FNode.keys t) (FNode.optional t) (FNode.together t) ++ (FNode.tables t).map (nameOf n)

/-- What zzWellFormed_b1 asks. -/
def Good : (n : Nat) → FTree n → Bool → List ByteArray → Prop
  | 0, t, _, _ => nomatch t
  | n + 1, t, top, allowed =>
    (if top then (FNode.name t).toList.isEmpty = true ∧ (FNode.left t).toList.isEmpty = true ∧ (FNode.needed t).toList.isEmpty = true ∧ FNode.array t = false
      else (FNode.name t).toList.isEmpty = false ∧ (((FNode.left t).toList == k_no_rule.toList) = true ∨ ((FNode.left t).toList == k_refuse.toList) = true)) ∧
    0 < (allOf t).length ∧ (allOf t).length ≤ 1000 ∧
    (∀ i (hi : i < (allOf t).length), (allOf t)[i].toList.isEmpty = false ∧ ∀ j (hj : j < (allOf t).length), i < j → ((allOf t)[i].toList == (allOf t)[j].toList) = false) ∧
    (∀ x ∈ FNode.oneOf t, has (allOf t) x = true) ∧
    (∀ c ∈ FNode.counts t, (has (FNode.keys t) c.1 = true ∨ has (FNode.optional t) c.1 = true) ∧ c.2.1.toList.isEmpty = false ∧ 0 ≤ c.2.2) ∧
    (∀ g ∈ FNode.together t, 2 ≤ g.length) ∧
    (has (FNode.keys t) k_base = decide (0 < (FNode.bases t).length)) ∧
    (∀ b ∈ FNode.bases t, has allowed b = true) ∧
    (∀ t' ∈ FNode.tables t, Good n t' false allowed)

/-- What holds in the midst of the walk. -/
structure WS (X : List Nat) (w wr : World) (n : Nat) (t : FTree (n + 1)) (sa : Value) (allowed : List ByteArray) (a4 : Option Addr) (n4 d4 : Nat) (a5 : Option Addr) (n5 d5 : Nat) (a6 : Option Addr) (n6 d6 : Nat) (a7 : Option Addr) (n7 d7 : Nat) (a8 : Option Addr) (n8 d8 : Nat) (a9 : Option Addr) (n9 d9 : Nat) (a10 : Option Addr) (n10 d10 : Nat) : Prop where
  below : Below w.heap.size w wr
  box : VarB wr w.heap.size #[.string (FNode.name t), .bool (FNode.array t), .string (FNode.needed t), .string (FNode.left t), .slice a4 n4 d4, .slice a5 n5 d5, .slice a6 n6 d6, .slice a7 n7 d7, .slice a8 n8 d8, .slice a9 n9 d9, .slice a10 n10 d10]
  al : Strs X wr sa allowed
  keys : Strs X wr (.slice a4 n4 d4) (FNode.keys t)
  opt : Strs X wr (.slice a5 n5 d5) (FNode.optional t)
  tog : Groups X wr (.slice a6 n6 d6) (FNode.together t)
  one : Strs X wr (.slice a7 n7 d7) (FNode.oneOf t)
  cnt : Counts X wr (.slice a8 n8 d8) (FNode.counts t)
  bas : Bases X wr (.slice a9 n9 d9) (FNode.bases t)
  tab : Forms (FormIs X n wr) X wr (.slice a10 n10 d10) (FNode.tables t)

section
variable {X : List Nat} {w wr w2 : World} {n : Nat} {t : FTree (n + 1)} {sa : Value} {allowed : List ByteArray} {a4 a5 a6 a7 a8 a9 a10 : Option Addr} {n4 d4 n5 d5 n6 d6 n7 d7 n8 d8 n9 d9 n10 d10 : Nat}
theorem WS.grow (h : WS X w wr n t sa allowed a4 n4 d4 a5 n5 d5 a6 n6 d6 a7 n7 d7 a8 n8 d8 a9 n9 d9 a10 n10 d10) (hb : Below wr.heap.size wr w2) : WS X w w2 n t sa allowed a4 n4 d4 a5 n5 d5 a6 n6 d6 a7 n7 d7 a8 n8 d8 a9 n9 d9 a10 n10 d10 :=
  have k : Keep X wr w2 := Keep.of_below hb
  ⟨h.below.trans (hb.mono h.below.size), h.box.below hb, h.al.keep k, h.keys.keep k, h.opt.keep k, h.tog.keep k, h.one.keep k, h.cnt.keep k, h.bas.keep k, h.tab.keep k fun _ _ h => h.keep k⟩
end

def PostW (w : World) (e : Ending) (w' : World) : Prop := e = .returned (.bool true) ∧ Below w.heap.size w w'

theorem flatten_at {css : List (List Value)} (h11 : ∀ (i : Nat) (c : List Value), css[i]? = some c → c.length = 11) : ∀ (k : Nat) (c : List Value) (j : Nat), css[k]? = some c → j < 11 → css.flatten[k * 11 + j]? = c[j]? := by
  induction css with
  | nil => intro k c j h; simp at h
  | cons d ds ih =>
    intro k c j h hj
    have hd : d.length = 11 := h11 0 d rfl
    cases k with
    | zero =>
      simp at h
      subst h
      rw [List.flatten_cons, List.getElem?_append_left (by omega)]
      congr 1
      omega
    | succ k =>
      rw [List.flatten_cons, List.getElem?_append_right (by omega)]
      have e : (k + 1) * 11 + j - d.length = k * 11 + j := by omega
      rw [e]
      exact ih (fun i c h => h11 (i + 1) c (by simpa using h)) k c j (by simpa using h) hj

/-- One table out of the list. -/
theorem forms_at {X : List Nat} {w : World} {n m c : Nat} {a : Option Addr} {ts : List (FTree n)} (h : Forms (FormIs X n w) X w (.slice a m c) ts) {k : Nat} (hk : k < ts.length) :
    ∃ g, a = some ⟨g, 0, none⟩ ∧ m = ts.length ∧ g < w.heap.size ∧ ∃ c0 c1 c2 c3 c4 c5 c6 c7 c8 c9 c10, FormIs X n w (.agg #[c0, c1, c2, c3, c4, c5, c6, c7, c8, c9, c10]) ts[k] ∧ w.cell? ⟨g, k * 11, none⟩ = some c0 ∧ w.cell? ⟨g, k * 11 + 1, none⟩ = some c1 ∧ w.cell? ⟨g, k * 11 + 2, none⟩ = some c2 ∧ w.cell? ⟨g, k * 11 + 3, none⟩ = some c3 ∧ w.cell? ⟨g, k * 11 + 4, none⟩ = some c4 ∧ w.cell? ⟨g, k * 11 + 5, none⟩ = some c5 ∧ w.cell? ⟨g, k * 11 + 6, none⟩ = some c6 ∧ w.cell? ⟨g, k * 11 + 7, none⟩ = some c7 ∧ w.cell? ⟨g, k * 11 + 8, none⟩ = some c8 ∧ w.cell? ⟨g, k * 11 + 9, none⟩ = some c9 ∧ w.cell? ⟨g, k * 11 + 10, none⟩ = some c10 := by
  obtain ⟨css, ho, hl, he⟩ := h
  obtain ⟨g, cc, e, -, -, hg, -, hcell⟩ := Own.pos ho (by omega)
  cases e
  have hck : css[k]? = some css[k] := List.getElem?_eq_getElem (by omega)
  have htk : ts[k]? = some ts[k] := List.getElem?_eq_getElem hk
  obtain ⟨h11, hf⟩ := he k _ _ hck htk
  have all11 : ∀ (i : Nat) (c : List Value), css[i]? = some c → c.length = 11 := fun i c hc => by
    have hi : i < css.length := (List.getElem?_eq_some_iff.1 hc).1
    exact (he i c _ hc (List.getElem?_eq_getElem (by omega))).1
  have hat : ∀ j, j < 11 → w.cell? ⟨g, k * 11 + j, none⟩ = (css[k])[j]? := fun j hj => by
    rw [hcell _ (by omega), flatten_at all11 k _ j hck hj]
  generalize css[k] = L at *
  match L, h11, hf, hat with
  | [c0, c1, c2, c3, c4, c5, c6, c7, c8, c9, c10], _, hf, hat =>
    exact ⟨g, rfl, rfl, hg, c0, c1, c2, c3, c4, c5, c6, c7, c8, c9, c10, hf, hat 0 (by omega), hat 1 (by omega), hat 2 (by omega), hat 3 (by omega), hat 4 (by omega), hat 5 (by omega), hat 6 (by omega), hat 7 (by omega), hat 8 (by omega), hat 9 (by omega), hat 10 (by omega)⟩
theorem forms_len {X : List Nat} {w : World} {n m c : Nat} {a : Option Addr} {ts : List (FTree n)} (h : Forms (FormIs X n w) X w (.slice a m c) ts) : m = ts.length ∧ ts.length ≤ maxLen := by
  obtain ⟨css, ho, hl, he⟩ := h
  obtain ⟨a', c', e, h1, h2⟩ := Own.form ho
  cases e
  exact ⟨rfl, by omega⟩

theorem strs_at {X : List Nat} {w : World} {m c : Nat} {a : Option Addr} {l : List ByteArray} (h : Strs X w (.slice a m c) l) {k : Nat} (hk : k < l.length) : ∃ g, a = some ⟨g, 0, none⟩ ∧ g < w.heap.size ∧ w.cell? ⟨g, k, none⟩ = some (.string l[k]) := by
  obtain ⟨g, cc, e, -, -, hg, -, hcell⟩ := Own.pos h (by omega)
  cases e
  exact ⟨g, rfl, hg, by rw [hcell k (by omega), List.getElem?_map, List.getElem?_eq_getElem hk]; rfl⟩
theorem strs_len {X : List Nat} {w : World} {m c : Nat} {a : Option Addr} {l : List ByteArray} (h : Strs X w (.slice a m c) l) : m = l.length ∧ l.length ≤ maxLen := by
  obtain ⟨a', c', e, h1, h2⟩ := Own.form h
  cases e
  exact ⟨rfl, by omega⟩
theorem bases_at {X : List Nat} {w : World} {m c : Nat} {a : Option Addr} {l : List ByteArray} (h : Bases X w (.slice a m c) l) {k : Nat} (hk : k < l.length) : ∃ g, a = some ⟨g, 0, none⟩ ∧ g < w.heap.size ∧ w.cell? ⟨g, k, none⟩ = some (.string l[k]) := by
  obtain ⟨g, cc, e, -, -, hg, -, hcell⟩ := Own.pos h (by omega)
  cases e
  exact ⟨g, rfl, hg, by rw [hcell k (by omega), List.getElem?_map, List.getElem?_eq_getElem hk]; rfl⟩
theorem bases_len {X : List Nat} {w : World} {m c : Nat} {a : Option Addr} {l : List ByteArray} (h : Bases X w (.slice a m c) l) : m = l.length ∧ l.length ≤ maxLen := by
  obtain ⟨a', c', e, h1, h2⟩ := Own.form h
  cases e
  exact ⟨rfl, by omega⟩
theorem counts_flat : ∀ (l : List (ByteArray × ByteArray × Int)) (k j : Nat) (hk : k < l.length), j < 3 → (l.flatMap cellsOfCount)[k * 3 + j]? = (cellsOfCount l[k])[j]?
  | [], _, _, hk, _ => by simp at hk
  | c :: l, 0, j, _, hj => by
    rw [List.flatMap_cons, List.getElem?_append_left (by simp [cellsOfCount]; omega)]
    simp
  | c :: l, k + 1, j, hk, hj => by
    rw [List.flatMap_cons, List.getElem?_append_right (by simp [cellsOfCount]; omega)]
    have e : (k + 1) * 3 + j - (cellsOfCount c).length = k * 3 + j := by simp [cellsOfCount]; omega
    rw [e]
    exact counts_flat l k j (by simpa using hk) hj
theorem counts_at {X : List Nat} {w : World} {m c : Nat} {a : Option Addr} {l : List (ByteArray × ByteArray × Int)} (h : Counts X w (.slice a m c) l) {k : Nat} (hk : k < l.length) :
    ∃ g, a = some ⟨g, 0, none⟩ ∧ g < w.heap.size ∧ w.cell? ⟨g, k * 3, none⟩ = some (.string l[k].1) ∧ w.cell? ⟨g, k * 3 + 1, none⟩ = some (.string l[k].2.1) ∧ w.cell? ⟨g, k * 3 + 2, none⟩ = some (.int .i64 l[k].2.2) := by
  obtain ⟨g, cc, e, -, -, hg, -, hcell⟩ := Own.pos h (by omega)
  cases e
  have hat : ∀ j, j < 3 → w.cell? ⟨g, k * 3 + j, none⟩ = (cellsOfCount l[k])[j]? := fun j hj => by rw [hcell _ (by omega), counts_flat l k j hk hj]
  exact ⟨g, rfl, hg, hat 0 (by omega), hat 1 (by omega), hat 2 (by omega)⟩
theorem counts_len {X : List Nat} {w : World} {m c : Nat} {a : Option Addr} {l : List (ByteArray × ByteArray × Int)} (h : Counts X w (.slice a m c) l) : m = l.length ∧ l.length ≤ maxLen := by
  obtain ⟨a', c', e, h1, h2⟩ := Own.form h
  cases e
  exact ⟨rfl, by omega⟩
theorem groups_at {X : List Nat} {w : World} {m c : Nat} {a : Option Addr} {l : List (List ByteArray)} (h : Groups X w (.slice a m c) l) {k : Nat} (hk : k < l.length) :
    ∃ g a' c', a = some ⟨g, 0, none⟩ ∧ g < w.heap.size ∧ w.cell? ⟨g, k, none⟩ = some (.slice a' l[k].length c') ∧ Strs X w (.slice a' l[k].length c') l[k] ∧ l[k].length ≤ maxLen := by
  obtain ⟨vs, ho, hl, he⟩ := h
  obtain ⟨g, cc, e, -, -, hg, -, hcell⟩ := Own.pos ho (by omega)
  cases e
  have hvk : vs[k]? = some (vs[k]'(by omega)) := List.getElem?_eq_getElem (by omega)
  have hs := he k _ _ hvk (List.getElem?_eq_getElem hk)
  obtain ⟨a', c', e', h1, h2⟩ := Own.form hs
  exact ⟨g, a', c', rfl, hg, by rw [hcell k (by omega), hvk, e'], e' ▸ hs, by omega⟩
theorem groups_len {X : List Nat} {w : World} {m c : Nat} {a : Option Addr} {l : List (List ByteArray)} (h : Groups X w (.slice a m c) l) : m = l.length ∧ l.length ≤ maxLen := by
  obtain ⟨vs, ho, hl, he⟩ := h
  obtain ⟨a', c', e, h1, h2⟩ := Own.form ho
  cases e
  exact ⟨rfl, by omega⟩

/-- The induction's hypothesis. -/
def IH12 (n : Nat) : Prop := ∀ (t : FTree n) (X : List Nat) (w : World) (v : Value) (top : Bool) (allowed : List ByteArray) (sa : Value), FormIs X n w v t → Good n t top allowed → Strs X w sa allowed →
  Calls Try.prog 12 #[v, .bool top, sa] w fun e w' => e = .returned (.bool true) ∧ Below w.heap.size w w'

set_option maxRecDepth 100000 in
set_option maxHeartbeats 2000000 in
theorem w20 {X : List Nat} {w ws : World} {n : Nat} {t : FTree (n + 1)} {sa : Value} {allowed : List ByteArray} {a4 a5 a6 a7 a8 a9 a10 : Option Addr} {n4 d4 n5 d5 n6 d6 n7 d7 n8 d8 n9 d9 n10 d10 : Nat} {u0 u1 u4 u5 u6 u7 u8 u9 u11 u12 u13 u14 u15 u16 u17 u18 u19 u20 u21 u22 u23 u24 u25 u26 u27 u28 u29 u30 u31 u32 u33 u34 u35 u36 u37 u38 u39 u40 u41 u42 u43 u44 u45 u46 u47 u48 u49 u50 u51 u52 u53 u54 u55 u56 u57 u58 u59 u60 u61 u62 u63 u64 u65 u66 u67 u68 u69 u70 u71 u72 u73 u74 u75 u76 u77 u78 u79 u80 u81 u82 u83 u84 u85 u86 u87 u88 u89 u90 u91 u92 u93 u94 u95 u96 u97 u98 u99 u100 u101 u102 u103 u104 u105 u106 u107 u108 u109 u110 u111 u112 u113 u114 u115 u116 u117 u118 u119 u120 u121 u122 u123 u124 u125 u126 u127 u128 u129 u130 u131 u132 u133 u134 u135 u136 u137 u138 u139 u140 u141 u142 u143 u144 u145 u146 u147 u148 u149 u150 u151 u152 u153 u154 u155 u156 u157 u158 u159 u160 u161 u162 u163 u164 u165 u166 u167 u168 u169 u170 u171 u172 u173 u174 u175 u176 u177 u178 u179 u180 u181 u182 u183 u184 u185 u186 u187 u188 u189 u190 u191 u192 u193 u194 u195 u196 u197 u198 u199 u200 u201 u202 u203 u204 u205 u206 : Value} (ih : IH12 n) (h : WS X w ws n t sa allowed a4 n4 d4 a5 n5 d5 a6 n6 d6 a7 n7 d7 a8 n8 d8 a9 n9 d9 a10 n10 d10) (hg : ∀ t' ∈ FNode.tables t, Good n t' false allowed) :
    Code.wp Try.prog (dropSeq 20 (Try.f12.body.getD .skip)) (bodyPost Try.prog Try.f12 (PostW w)) ⟨#[u0, u1, sa, .pointer (some ⟨w.heap.size, 0, none⟩), u4, u5, u6, u7, u8, u9, .slice a10 n10 d10, u11, u12, u13, u14, u15, u16, u17, u18, u19, u20, u21, u22, u23, u24, u25, u26, u27, u28, u29, u30, u31, u32, u33, u34, u35, u36, u37, u38, u39, u40, u41, u42, u43, u44, u45, u46, u47, u48, u49, u50, u51, u52, u53, u54, u55, u56, u57, u58, u59, u60, u61, u62, u63, u64, u65, u66, u67, u68, u69, u70, u71, u72, u73, u74, u75, u76, u77, u78, u79, u80, u81, u82, u83, u84, u85, u86, u87, u88, u89, u90, u91, u92, u93, u94, u95, u96, u97, u98, u99, u100, u101, u102, u103, u104, u105, u106, u107, u108, u109, u110, u111, u112, u113, u114, u115, u116, u117, u118, u119, u120, u121, u122, u123, u124, u125, u126, u127, u128, u129, u130, u131, u132, u133, u134, u135, u136, u137, u138, u139, u140, u141, u142, u143, u144, u145, u146, u147, u148, u149, u150, u151, u152, u153, u154, u155, u156, u157, u158, u159, u160, u161, u162, u163, u164, u165, u166, u167, u168, u169, u170, u171, u172, u173, u174, u175, u176, u177, u178, u179, u180, u181, u182, u183, u184, u185, u186, u187, u188, u189, u190, u191, u192, u193, u194, u195, u196, u197, u198, u199, u200, u201, u202, u203, u204, u205, u206], []⟩ ws := by
  obtain ⟨hn10, hmax⟩ := forms_len h.tab
  unfold maxLen at hmax
  have HW : Hid (WS X w ws n t sa allowed a4 n4 d4 a5 n5 d5 a6 n6 d6 a7 n7 d7 a8 n8 d8 a9 n9 d9 a10 n10 d10) := h
  have HG : Hid (∀ t' ∈ FNode.tables t, Good n t' false allowed) := hg
  have HIH : Hid (IH12 n) := ih
  clear h hg ih
  subst hn10
  conv => arg 2; whnf
  go_wp2
  go_loopw [26] (fun i wq => ∃ k : Nat, k ≤ (FNode.tables t).length ∧ i = .int .i64 k ∧ WS X w wq n t sa allowed a4 n4 d4 a5 n5 d5 a6 n6 d6 a7 n7 d7 a8 n8 d8 a9 n9 d9 a10 (FNode.tables t).length d10) (fun i _ => (FNode.tables t).length - (intOf i).toNat)
  case atStart => exact ⟨0, Nat.zero_le _, rfl, HW.out⟩
  case round =>
    obtain ⟨k, hk, rfl, hws⟩ := hrel
    have HWS : Hid (WS X w wr n t sa allowed a4 n4 d4 a5 n5 d5 a6 n6 d6 a7 n7 d7 a8 n8 d8 a9 n9 d9 a10 (FNode.tables t).length d10) := hws
    by_cases hlt : k < (FNode.tables t).length
    · obtain ⟨g, e, -, hgl, c0, c1, c2, c3, c4, c5, c6, c7, c8, c9, c10, hf, k0, k1, k2, k3, k4, k5, k6, k7, k8, k9, k10⟩ := forms_at hws.tab hlt
      subst e
      have HF : Hid (FormIs X n wr (.agg #[c0, c1, c2, c3, c4, c5, c6, c7, c8, c9, c10]) (FNode.tables t)[k]) := hf
      clear hws hf
      go_wp2_with fail
      refine (HIH.out (FNode.tables t)[k] X wr _ false allowed sa HF.out (HG.out _ (List.getElem_mem hlt)) HWS.out.al).mono ?_
      rintro e w' ⟨rfl, hb⟩
      have HB : Hid (Below wr.heap.size wr w') := hb
      clear hb
      go_wp2
      go_roundw
      case rel => exact ⟨k + 1, by omega, by go_num, HWS.out.grow HB.out⟩
      case measure => simp [intOf]; omega
    · clear hws
      go_wp2
      go_ret
      exact ⟨rfl, HWS.out.below⟩
end Go.Proofs.Qxb6601023a
