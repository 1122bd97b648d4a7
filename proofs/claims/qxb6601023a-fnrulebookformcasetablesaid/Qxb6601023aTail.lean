/-
  OWN WORK. rulebookForm (20), from its end backwards: the last statements.
-/
import Derived.Test.Qxb6601023aLeaf
import Derived.Test.Qxb6601023aFlow
import Derived.Test.Qxb6601023aAppend
import Derived.Laws.EntriesVeiled
namespace Go.Proofs.Qxb6601023a
open Go.RowKit Go.Flow
set_option linter.unusedVariables false

def dropSeq : Nat → Code → Code
  | 0, c => c
  | n + 1, .seq _ b => dropSeq n b
  | _ + 1, c => c

/-- A variable's block: its cells; none is frozen. -/
def VarB (w : World) (b : Nat) (cs : Array Value) : Prop := b < w.heap.size ∧ (∀ j, w.cell? ⟨b, j, none⟩ = cs[j]?) ∧ ∀ j, w.frozen? ⟨b, j, none⟩ = false

def Post20 (w0 : World) (t : FTree 6) (e : Ending) (w' : World) : Prop := ∃ v, e = .returned v ∧ FormIs [] 6 w' v t ∧ Below w0.heap.size w0 w'


theorem VarB.keep {X : List Nat} {w w' : World} {b : Nat} {cs : Array Value} (h : VarB w b cs) (k : Keep X w w') (hx : b ∉ X) : VarB w' b cs :=
  ⟨Nat.lt_of_lt_of_le h.1 k.size, fun j => by rw [World.cell?_of_block (w := w) (w' := w') (a := ⟨b, j, none⟩) (k.block b h.1 hx)]; exact h.2.1 j,
    fun j => by rw [World.frozen?_of_block (w := w) (w' := w') (a := ⟨b, j, none⟩) (k.block b h.1 hx)]; exact h.2.2 j⟩

theorem Keep.grown {w w' : World} {g : Nat} (h : w.grownBy w' (some g)) : Keep [g] w w' := ⟨h.size, fun k hk hx => h.block k hk (by simpa using hx)⟩
theorem Keep.mono {X Y : List Nat} {w w' : World} (h : Keep X w w') (hs : ∀ k ∈ X, k ∈ Y) : Keep Y w w' := ⟨h.size, fun k hk hx => h.block k hk fun hm => hx (hs k hm)⟩

theorem FormIs.one : ∀ {X : List Nat} {n : Nat} {w : World} {v : Value} {t : FTree n}, FormIs X n w v t → ∃ cs : List Value, v = .agg cs.toArray ∧ cs.length = 11 ∧ ∀ u ∈ cs, u.oneCell' = true
  | _, 0, _, _, t, _ => nomatch t
  | _, _ + 1, _, _, _, ⟨sk, so, st, s1, sc, sb, sf, hv, h1, h2, ⟨_, h3, _⟩, h4, h5, h6, ⟨_, h7, _⟩⟩ => by
    obtain ⟨_, _, rfl, _⟩ := Own.form h1
    obtain ⟨_, _, rfl, _⟩ := Own.form h2
    obtain ⟨_, _, rfl, _⟩ := Own.form h3
    obtain ⟨_, _, rfl, _⟩ := Own.form h4
    obtain ⟨_, _, rfl, _⟩ := Own.form h5
    obtain ⟨_, _, rfl, _⟩ := Own.form h6
    obtain ⟨_, _, rfl, _⟩ := Own.form h7
    refine ⟨_, hv, rfl, fun u hu => ?_⟩
    simp only [List.mem_cons, List.not_mem_nil, or_false] at hu
    rcases hu with rfl | rfl | rfl | rfl | rfl | rfl | rfl | rfl | rfl | rfl | rfl <;> rfl

theorem FormIs.open {X : List Nat} {n : Nat} {w : World} {v : Value} {t : FTree (n + 1)} (h : FormIs X (n + 1) w v t) : ∃ a4 n4 d4 a5 n5 d5 a6 n6 d6 a7 n7 d7 a8 n8 d8 a9 n9 d9 a10 n10 d10,
    v = .agg #[.string (FNode.name t), .bool (FNode.array t), .string (FNode.needed t), .string (FNode.left t), .slice a4 n4 d4, .slice a5 n5 d5, .slice a6 n6 d6, .slice a7 n7 d7, .slice a8 n8 d8, .slice a9 n9 d9, .slice a10 n10 d10] ∧
    Strs X w (.slice a4 n4 d4) (FNode.keys t) ∧ Strs X w (.slice a5 n5 d5) (FNode.optional t) ∧ Groups X w (.slice a6 n6 d6) (FNode.together t) ∧ Strs X w (.slice a7 n7 d7) (FNode.oneOf t) ∧ Counts X w (.slice a8 n8 d8) (FNode.counts t) ∧
    Bases X w (.slice a9 n9 d9) (FNode.bases t) ∧ Forms (FormIs X n w) X w (.slice a10 n10 d10) (FNode.tables t) := by
  obtain ⟨sk, so, st, s1, sc, sb, sf, hv, h1, h2, h3, h4, h5, h6, h7⟩ := h
  obtain ⟨a4, d4, rfl, _⟩ := Own.form h1
  obtain ⟨a5, d5, rfl, _⟩ := Own.form h2
  obtain ⟨_, h3a, _⟩ := id h3
  obtain ⟨a6, d6, rfl, _⟩ := Own.form h3a
  obtain ⟨a7, d7, rfl, _⟩ := Own.form h4
  obtain ⟨a8, d8, rfl, _⟩ := Own.form h5
  obtain ⟨a9, d9, rfl, _⟩ := Own.form h6
  obtain ⟨_, h7a, _⟩ := id h7
  obtain ⟨a10, d10, rfl, _⟩ := Own.form h7a
  exact ⟨_, _, _, _, _, _, _, _, _, _, _, _, _, _, _, _, _, _, _, _, _, hv, h1, h2, h3, h4, h5, h6, h7⟩

/-- The list of tables as it grows: its row, alone in block g. -/
structure Tabs (base g : Nat) (X : List Nat) (w : World) (st : Value) (css : List (List Value)) (ts : List (FTree 5)) : Prop where
  own : w.ownsRow base 30 11 st ts.length css.flatten
  at_ : st.ownBlock = some g
  out : g ∉ X
  len : css.length = ts.length
  pos : 0 < ts.length
  each : ∀ (i : Nat) (cs : List Value) (t : FTree 5), css[i]? = some cs → ts[i]? = some t → cs.length = 11 ∧ FormIs (g :: X) 5 w (.agg cs.toArray) t

theorem Tabs.base {base g : Nat} {X : List Nat} {w : World} {st : Value} {css : List (List Value)} {ts : List (FTree 5)} (h : Tabs base g X w st css ts) : base ≤ g ∧ g < w.heap.size := h.own.lt g h.at_
theorem Tabs.keep {base g : Nat} {X : List Nat} {w w' : World} {st : Value} {css : List (List Value)} {ts : List (FTree 5)} (h : Tabs base g X w st css ts) (k : Keep X w w') : Tabs base g X w' st css ts :=
  ⟨ownsRow_keep h.own k fun b hb => by have : g = b := by simpa [h.at_] using hb
                                       exact this ▸ h.out, h.at_, h.out, h.len, h.pos, fun i cs t hc ht => let ⟨a, b⟩ := h.each i cs t hc ht; ⟨a, b.keep (k.mono fun _ hm => List.mem_cons_of_mem _ hm)⟩⟩
theorem Tabs.forms {base g : Nat} {X : List Nat} {w : World} {st : Value} {css : List (List Value)} {ts : List (FTree 5)} (h : Tabs base g X w st css ts) : Forms (FormIs X 5 w) X w st ts :=
  ⟨css, ⟨ownsRow_zero h.own, fun k hk => by have : g = k := by simpa [h.at_] using hk
                                            exact this ▸ h.out, fun h0 => absurd h0 (by have := h.pos; omega)⟩, h.len, fun i cs t hc ht => let ⟨a, b⟩ := h.each i cs t hc ht; ⟨a, b.shift fun k hk => .inl (List.mem_cons_of_mem _ hk)⟩⟩
theorem Tabs.append {base g : Nat} {X : List Nat} {w w' : World} {st v' : Value} {css : List (List Value)} {ts : List (FTree 5)} (h : Tabs base g X w st css ts) (hX : ∀ k ∈ X, k < w.heap.size)
    (ncs : List (List Value)) (nts : List (FTree 5)) (hl : ncs.length = nts.length) (hnew : ∀ (i : Nat) (cs : List Value) (t : FTree 5), ncs[i]? = some cs → nts[i]? = some t → cs.length = 11 ∧ FormIs (g :: X) 5 w (.agg cs.toArray) t)
    (hown : w'.ownsRow base 30 11 v' (ts.length + nts.length) (css.flatten ++ ncs.flatten)) (hg : w.grownBy w' st.ownBlock) (hat : v'.ownBlock = st.ownBlock ∨ v'.ownBlock = some w.heap.size) :
    ∃ g', (g' = g ∨ g' = w.heap.size) ∧ Tabs base g' X w' v' (css ++ ncs) (ts ++ nts) := by
  rw [h.at_] at hg hat
  have hgl := h.base.2
  have hall : ∀ (g' : Nat), g' = g ∨ g' = w.heap.size → ∀ (i : Nat) (cs : List Value) (t : FTree 5), (css ++ ncs)[i]? = some cs → (ts ++ nts)[i]? = some t → cs.length = 11 ∧ FormIs (g' :: X) 5 w' (.agg cs.toArray) t := by
    intro g' hg' i cs t hc ht
    have key : cs.length = 11 ∧ FormIs (g :: X) 5 w (.agg cs.toArray) t := by
      rcases Nat.lt_or_ge i css.length with hi | hi
      · rw [List.getElem?_append_left hi] at hc
        rw [List.getElem?_append_left (by rw [← h.len]; exact hi)] at ht
        exact h.each i cs t hc ht
      · rw [List.getElem?_append_right hi] at hc
        rw [List.getElem?_append_right (by rw [← h.len]; exact hi), ← h.len] at ht
        exact hnew _ cs t hc ht
    refine ⟨key.1, ?_⟩
    have h1 : FormIs (w.heap.size :: g :: X) 5 w (.agg cs.toArray) t := key.2.shift fun k hk => by
      rcases List.mem_cons.1 hk with rfl | hk
      · exact .inr (Nat.le_refl _)
      · exact .inl hk
    have hk : Keep (w.heap.size :: g :: X) w w' := (Keep.grown hg).mono fun k hk => by simp at hk; subst hk; simp
    exact (h1.keep hk).shift fun k hk => .inl (by
      rcases List.mem_cons.1 hk with rfl | hk
      · rcases hg' with rfl | rfl <;> simp
      · simp [hk])
  have hlen : (css ++ ncs).length = (ts ++ nts).length := by simp [h.len, hl]
  have hown' : w'.ownsRow base 30 11 v' (ts ++ nts).length (css ++ ncs).flatten := by simpa using hown
  rcases hat with hat | hat
  · exact ⟨g, .inl rfl, hown', hat, h.out, hlen, by have := h.pos; simp; omega, hall g (.inl rfl)⟩
  · exact ⟨w.heap.size, .inr rfl, hown', hat, not_mem_of_lt hX (Nat.le_refl _), hlen, by have := h.pos; simp; omega, hall _ (.inr rfl)⟩
/-- append of a slice literal of forms: its block is the last that was laid. -/
theorem wpl_append_lit {W : World} {cs : Array Value} {ops : Array Oper} {rest : List Oper} {o : Oper} {a : Act} {Q : Exit → Act → World → Prop} (hgd : o.guard = none) (s x : Operand)
    (ho : o.op = .call { callee := .builtin .append, args := #[s, x], argTypes := #[28, 28] }) {B m : Nat} (hx : a.eval x = .slice (some ⟨B, 0, none⟩) m m) {v : Value} (hs : a.eval s = v)
    (base g : Nat) (X : List Nat) (css : List (List Value)) (ts : List (FTree 5)) (hT : Tabs base g X W v css ts) (hB : W.heap.size = B) (hcs : cs.size = m * 11) (h1 : (cs.toList.all fun u => u.oneCell') = true)
    (hnm : ts.length + m ≤ 1000000) (hbase : base ≤ W.heap.size)
    (h : ∀ v' w', w'.ownsRow base 30 11 v' (ts.length + m) (css.flatten ++ cs.toList) → (W.alloc (.cells cs 30)).grownBy w' v.ownBlock → (v'.ownBlock = v.ownBlock ∨ v'.ownBlock = some (W.alloc (.cells cs 30)).heap.size) → wpList Try.prog ops Q rest (a.put o.dst v') w') :
    wpList Try.prog ops Q (o :: rest) a (W.alloc (.cells cs 30)) := by
  refine wpl_append_forms hgd s x ho base v ts.length css.flatten hs (hT.keep ((Keep.refl _ _).alloc _)).own 0 (.slice (some ⟨B, 0, none⟩) m m) m cs.toList hx (ownsRow_block (blk_top _ _ hB) (by unfold maxLen; omega) hcs rfl) ?_ hnm (by simp; omega) h
  intro u hu
  exact List.all_eq_true.1 h1 u hu

set_option maxRecDepth 100000 in
set_option maxHeartbeats 1000000 in
theorem tail19 {w0 w : World} {ts : List (FTree 5)} {b2 : Nat} {st : Value} {c0 c1 c2 c3 c4 c5 c6 c7 c8 c9 c10 : Value} {u0 u1 u3 u4 u5 u6 u7 u8 u9 u10 u11 u12 u14 u15 u16 u17 u18 u19 u20 u21 u22 u23 u24 u25 u26 u27 u28 u29 u30 u31 u32 u33 u34 u35 u36 u37 u38 u39 u40 u41 u42 u43 u44 u45 u46 u47 u48 u49 u50 u51 u52 u53 u54 u55 u56 u57 u58 u59 u60 u61 u62 u63 u64 u65 u66 u67 u68 u69 u70 u71 u72 u73 u74 u75 u76 u77 u78 u79 u80 u81 u82 u83 u84 u85 u86 u87 u88 u89 u90 u91 u92 u93 u94 u95 u96 u97 u98 u99 u100 u101 u102 u103 u104 u105 u106 u107 u108 u109 u110 u111 u112 u113 u114 u115 u116 u117 u118 u119 u120 u121 : Value}
    (hb : Below w0.heap.size w0 w) (h0 : w0.heap.size ≤ b2) (hv : VarB w b2 #[c0, c1, c2, c3, c4, c5, c6, c7, c8, c9, c10]) (ht : Forms (FormIs [b2] 5 w) [b2] w st ts) :
    Code.wp Try.prog (dropSeq 19 (Try.f20.body.getD .skip)) (bodyPost Try.prog Try.f20 (Post20 w0 (topT ts))) ⟨#[u0, u1, .pointer (some ⟨b2, 0, none⟩), u3, u4, u5, u6, u7, u8, u9, u10, u11, u12, st, u14, u15, u16, u17, u18, u19, u20, u21, u22, u23, u24, u25, u26, u27, u28, u29, u30, u31, u32, u33, u34, u35, u36, u37, u38, u39, u40, u41, u42, u43, u44, u45, u46, u47, u48, u49, u50, u51, u52, u53, u54, u55, u56, u57, u58, u59, u60, u61, u62, u63, u64, u65, u66, u67, u68, u69, u70, u71, u72, u73, u74, u75, u76, u77, u78, u79, u80, u81, u82, u83, u84, u85, u86, u87, u88, u89, u90, u91, u92, u93, u94, u95, u96, u97, u98, u99, u100, u101, u102, u103, u104, u105, u106, u107, u108, u109, u110, u111, u112, u113, u114, u115, u116, u117, u118, u119, u120, u121], []⟩ w := by
  obtain ⟨hl2, hc2, hf2⟩ := hv
  have HT : Hid (Forms (FormIs [b2] 5 w) [b2] w st ts) := ht
  obtain ⟨css, ho, _⟩ := ht
  obtain ⟨a, c, hs, _⟩ := Own.form ho
  subst hs
  clear ho
  conv => arg 2; whnf
  go_wp2
  have hk : Keep [b2] w (((((((((((w.setCell ⟨b2, 0, none⟩ (.string k_empty)).setCell ⟨b2, 1, none⟩ (.bool false)).setCell ⟨b2, 2, none⟩ (.string k_empty)).setCell ⟨b2, 3, none⟩ (.string k_empty)).setCell ⟨b2, 4, none⟩ (.slice (some ⟨w.heap.size, 0, none⟩) 4 4)).setCell ⟨b2, 5, none⟩ (.slice none 0 0)).setCell ⟨b2, 6, none⟩ (.slice none 0 0)).setCell ⟨b2, 7, none⟩ (.slice none 0 0)).setCell ⟨b2, 8, none⟩ (.slice none 0 0)).setCell ⟨b2, 9, none⟩ (.slice none 0 0)).setCell ⟨b2, 10, none⟩ (.slice a ts.length c)) := by
    iterate 11 refine Keep.setCell ?_ _ (by simp) _
    exact Keep.refl _ _
  refine bodyPost_ret (v := .agg #[.string k_empty, .bool false, .string k_empty, .string k_empty, .slice (some ⟨w.heap.size, 0, none⟩) 4 4, .slice none 0 0, .slice none 0 0, .slice none 0 0, .slice none 0 0, .slice none 0 0, .slice a ts.length c])
    (by simp [results, Try.results20, go_sem, hl2, hc2]) rfl ⟨_, rfl, ?_, ?_⟩
  · refine ⟨_, _, _, _, _, _, _, rfl, ?_, Own.nil _ _ _ _, ⟨[], Own.nil _ _ _ _, rfl, fun i v l h => by simp at h⟩, Own.nil _ _ _ _, Own.nil _ _ _ _, Own.nil _ _ _ _, ?_⟩
    · exact Own.of_block (cs := #[.string k_format, .string k_body, .string k_title, .string k_shareholders_meeting]) (blk_top _ _ (by simp)) (by simp) (by decide) rfl rfl
    · exact (HT.out.keep (hk.alloc _) fun _ _ h => h.keep (hk.alloc _)).shift (by simp) fun _ _ h => h.shift (by simp)
  · refine Below.alloc ?_ (by simp; have := hb.size; omega) _
    iterate 11 refine Below.setCell ?_ (by exact h0) _
    exact hb
end Go.Proofs.Qxb6601023a
