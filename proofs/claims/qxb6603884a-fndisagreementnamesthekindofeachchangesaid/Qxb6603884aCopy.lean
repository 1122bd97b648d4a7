/-
  OWN WORK. zzCopy: a fresh map over the listed keys, of fresh values, nil just where the value is.
-/
import Derived.Test.Qxb6603884aByt
namespace Go.Proofs.Qxb6603884a
open Go Go.RowKit
set_option linter.unusedVariables false
set_option linter.unusedSimpArgs false
attribute [local go_sem] run_eql31

theorem run_eqlMap (w : World) (m : Option Nat) : (binOp .eql 22 (.map m) (.map none)).run Try.prog w = .ok (.bool m.isNone) w := by
  simp only [binOp]
  simp [run_equal_map_nil w 22 9 31 m Try.underlying22]
attribute [local go_sem] run_eqlMap
theorem run_make22 (w : World) (n : Nat) (hn : n ≤ 65536) : (Instr.makeMap 22 (some (.int .i64 n))).run Try.prog w = .ok (.map (some w.heap.size)) (w.alloc (.map #[] 0)) := by
  simp [Instr.makeMap, asInt, asIntOf, Result.andThen]

theorem key_ne {k k' : ByteArray} (h : k' ≠ k) : (Lit.string k'.data.toList) ≠ Lit.string k.data.toList := by
  intro e
  apply h
  have e2 : k'.data.toList = k.data.toList := by injection e
  exact WideShapes.bytes_inj e2
theorem val_put_same {D : DataW Value} (hD : Maps.IsMap D) (k : ByteArray) (v : Value) : val (D.put (.string k.data.toList) (.held v)) k = v := by
  unfold val
  rw [Maps.atKey_put_same (k := .string k.data.toList) hD trivial]
  rfl
theorem val_put_other {D : DataW Value} {k k' : ByteArray} (h : k' ≠ k) (v : Value) : val (D.put (.string k.data.toList) (.held v)) k' = val D k' := by
  unfold val
  rw [Maps.atKey_put_other (key_ne h)]
theorem has_put_other {D : DataW Value} {k k' : ByteArray} (h : k' ≠ k) (v : Value) : has (D.put (.string k.data.toList) (.held v)) k' = has D k' := Maps.has_put_other (key_ne h) _

/-- Not nil. -/
def NN (v : Value) : Prop := ∃ a n c, v = .slice (some a) n c
def Cp (ks : List ByteArray) (D D' : DataW Value) : Prop := (∀ k ∈ ks, NN (val D k)) → ∀ k, has D' k = true → NN (val D' k)
theorem Cp.put {ks : List ByteArray} {D D' : DataW Value} (h : Cp ks D D') (hD : Maps.IsMap D') {k : ByteArray} (hk : k ∈ ks) {v : Value} (hv : NN (val D k) → NN v) : Cp ks D (D'.put (.string k.data.toList) (.held v)) := by
  intro h0 k' hk'
  by_cases e : k' = k
  · subst e
    rw [val_put_same hD]
    exact hv (h0 _ hk)
  · rw [has_put_other e] at hk'
    rw [val_put_other e]
    exact h h0 k' hk'
theorem bs_put {w : World} {D' : DataW Value} (hD : Maps.IsMap D') (h : ∀ k, Bs w (val D' k)) {v : Value} (hv : Bs w v) (k : ByteArray) : ∀ k', Bs w (val (D'.put (.string k.data.toList) (.held v)) k') := by
  intro k'
  by_cases e : k' = k
  · subst e
    rw [val_put_same hD]
    exact hv
  · rw [val_put_other e]
    exact h k'
theorem Bs.turned {w w' : World} {v : Value} {b n : Nat} {D : DataW Value} (h : Bs w v) (hm : w.ownsMap Try.prog 9 rdr b n D) (hg : w.grownBy w' (some b)) : Bs w' v := by
  obtain ⟨a, l, c, e, h1, h2⟩ := h
  refine ⟨a, l, c, e, h1, fun k hk => ?_⟩
  obtain ⟨g, off, ea, hlt, x, hc⟩ := h2 k hk
  have hne : g ≠ b := by
    intro eg
    subst eg
    obtain ⟨es, clock, hb, _⟩ := hm
    simp [World.cell?, hb] at hc
  refine ⟨g, off, ea, Nat.lt_of_lt_of_le hlt hg.size, x, ?_⟩
  rw [← hc]
  exact World.cell?_of_block (w := w) (hg.block g hlt (fun e => by cases e; exact hne rfl))

def Post8 (w : World) (ks : List ByteArray) (D : DataW Value) (e : Ending) (w' : World) : Prop :=
  ∃ c D', e = .returned c ∧ Mv w' c D' ∧ Maps.size D' ≤ 65536 ∧ Below w.heap.size w w' ∧ Cp ks D D'
def Inv8 (w : World) (ks : List ByteArray) (D : DataW Value) (i : Value) (wr : World) : Prop :=
  ∃ (k : Nat) (D' : DataW Value), k ≤ ks.length ∧ i = .int .i64 k ∧ wr.ownsMap Try.prog 9 rdr w.heap.size k D' ∧ Below w.heap.size w wr ∧ (∀ x, Bs wr (val D' x)) ∧ Cp ks D D'
/-- Bytes of the call's own. -/
def Own8 (wr : World) (g n : Nat) (wq : World) : Prop := ∃ xs : List Value, (∀ v ∈ xs, ∃ x : Int, v = .int .u8 x) ∧ wq.ownsRow g 5 1 (.slice (some ⟨g, 0, none⟩) n n) n xs
def Inv8b (wr : World) (g n : Nat) (j : Value) (wq : World) : Prop := ∃ k : Nat, k ≤ n ∧ j = .int .i64 k ∧ Below g wr wq ∧ Own8 wr g n wq
theorem Own8.bs {wr wq : World} {g n : Nat} (h : Own8 wr g n wq) (hn : n ≤ maxLen) : Bs wq (.slice (some ⟨g, 0, none⟩) n n) := by
  obtain ⟨xs, hx, ho⟩ := h
  refine ⟨_, n, n, rfl, hn, fun k hk => ⟨g, 0, rfl, (ho.lt g rfl).2, ?_⟩⟩
  have hl : xs.length = n := by have := ho.1; omega
  rw [Nat.zero_add, ho.cellAt k (by omega), List.getElem?_eq_getElem (by omega)]
  obtain ⟨x, e⟩ := hx xs[k] (List.getElem_mem _)
  exact ⟨x, by rw [e]⟩

set_option maxRecDepth 100000 in
set_option maxHeartbeats 1000000 in
theorem copy8 {w : World} {b : Nat} {s : Value} {D : DataW Value} {ks : List ByteArray} (hm : Mv w (.map (some b)) D) (hr : Rd w s ks) (hk : KeysOk D ks) (hn : ks.length ≤ 65536) (hsh : Short D ks) : Calls Try.prog 8 #[.map (some b), s] w (Post8 w ks D) := by
  obtain ⟨a, cc, rfl, _, hcell⟩ := id hr
  have HM := hide hm
  have HC := hide hcell
  have HK := hide hk
  have HSh := hide hsh
  have hmk := run_make22 w ks.length hn
  clear hm hr hcell hk hsh
  go_enter Try.func8, Try.ntmps8
  go_wp2_with fail
  clear hmk
  go_loopw [17] (fun i wr => Inv8 w ks D i wr) (fun i _ => ks.length - (intOf i).toNat)
  case atStart =>
    refine ⟨0, .map [], Nat.zero_le _, rfl, World.ownsMap_made _ _ _ _, (Below.refl _ _).alloc (Nat.le_refl _) _, fun x => bs_nil _, fun _ k hk => by cases hk⟩
  case round =>
    obtain ⟨k, D', hkl, rfl, hown, hbel, hbs, hcp⟩ := hrel
    have HOwn := hide hown
    have HBel := hide hbel
    have HBs := hide hbs
    have HCp := hide hcp
    clear hown hbel hbs hcp
    by_cases hlt : k < ks.length
    · obtain ⟨b0, off, rfl, hbl, hc⟩ := (unhide HC) k hlt
      have hc1 : wr.cell? ⟨b0, off + k, none⟩ = some (.string ks[k]) := by rw [(unhide HBel).cell (p := ⟨b0, off + k, none⟩) hbl]; exact hc
      have hmem : ks[k] ∈ ks := List.getElem_mem hlt
      have hkk := ((unhide HK) ks[k] hmem).1
      have hlook := ((unhide HM).below (unhide HBel)).1.look hkk
      obtain ⟨a2, n2, c2, e2, hn2, hb2⟩ := (unhide HM).2 ks[k]
      have hs2 := (unhide HSh) ks[k] hmem
      rw [e2] at hlook hs2
      have HV := hide e2
      have HMem := hide hmem
      have HB2 := hide hb2
      simp only [vlen] at hs2
      clear hc e2 hmem hb2
      generalize ks[k] = s1 at *
      cases a2 with
      | none =>
        go_wp2_with (at_mapUpdate; (refine wpList_mapUpdate_own _ rfl _ _ _ 22 rfl 9 31 law9 Try.underlying22 rdr w.heap.size k D' rfl (unhide HOwn) (by unfold maxLen; omega) _ _ _ rfl rfl (key9 hkk) (.held (.slice none 0 0)) [] rfl ?_; intro w1 hown1 hgrow1))
        have HI : Hid (Inv8 w ks D (.int .i64 ((k : Int) + 1)) w1) := by
          refine ⟨k + 1, _, by omega, by go_num, hown1, (unhide HBel).grown hgrow1 (unhide HBel).size (fun j hj => by cases hj; exact Nat.le_refl _), fun x => ?_, (unhide HCp).put (unhide HOwn).isMap (unhide HMem) (fun h => ?_)⟩
          · exact (bs_put (unhide HOwn).isMap (unhide HBs) (bs_nil wr) s1 x).turned (unhide HOwn) hgrow1
          · rw [unhide HV] at h
            obtain ⟨_, _, _, e⟩ := h
            cases e
        clear hown1 hgrow1
        go_roundw
        case rel => exact unhide HI
        case measure => simp [intOf]; omega
      | some a2 =>
        obtain ⟨w2, hr2, hown2, hgr2⟩ := run_makeSlice_full (P := Try.prog) (w := wr) wr.heap.size 31 5 Try.t5 (.int .u8 0) 1 Try.underlying31 info5 (by kernel_rfl) (by kernel_rfl) .i64 .i64 n2 (by omega) (by show 1 * n2 ≤ _; omega) (by unfold maxLen; omega) (Nat.le_refl _)
        have hx : ∀ v ∈ (madeCells (Value.int .u8 0).cells (n2 * 1)).toList, ∃ x : Int, v = .int .u8 x := by
          intro v hv
          simp [madeCells, Value.cells] at hv
          obtain ⟨i, hi, e⟩ := hv
          refine ⟨0, e.symm.trans ?_⟩
          simp [Nat.mod_one]
        have HI2 : Hid (Inv8b wr wr.heap.size n2 (.int .i64 (0 : Nat)) w2) := ⟨0, Nat.zero_le _, rfl, (Below.refl _ _).grown hgr2 (Nat.le_refl _) (fun j hj => by cases hj), _, hx, hown2⟩
        have hgB := (unhide HBel).size
        have hBg : w.heap.size < wr.heap.size := (unhide HOwn).lt
        have HEnd : Hid (∀ wq, Below wr.heap.size wr wq → Own8 wr wr.heap.size n2 wq → wq.ownsMap Try.prog 9 rdr w.heap.size k D' ∧ Below w.heap.size w wq ∧ (∀ x, Bs wq (val D' x)) ∧ Bs wq (.slice (some ⟨wr.heap.size, 0, none⟩) n2 n2) ∧ wq.cell? ⟨b0, off + k, none⟩ = some (.string s1)) := by
          intro wq hb ho
          refine ⟨?_, (unhide HBel).trans (hb.mono hgB), fun x => ((unhide HBs) x).below hb, ho.bs hn2, ?_⟩
          · obtain ⟨es, clock, hbk, r⟩ := unhide HOwn
            exact ⟨es, clock, (hb.block _ hBg).trans hbk, r⟩
          · rw [hb.cell (p := ⟨b0, off + k, none⟩) (Nat.lt_trans hbl hBg)]
            exact hc1
        have HCell : Hid (∀ wq, Below wr.heap.size wr wq → ∀ j, j < n2 → ∃ b1 off1, some a2 = some ⟨b1, off1, none⟩ ∧ ∃ x : Int, wq.cell? ⟨b1, off1 + j, none⟩ = some (.int .u8 x)) := by
          intro wq hb j hj
          obtain ⟨b1, off1, e, hl1, x, hx⟩ := (unhide HB2) j hj
          refine ⟨b1, off1, e, x, ?_⟩
          rw [hb.cell (p := ⟨b1, off1 + j, none⟩) (Nat.lt_trans hl1 hBg), (unhide HBel).cell (p := ⟨b1, off1 + j, none⟩) hl1]
          exact hx
        clear hown2 hgr2 hx
        go_wp2_with fail
        clear hr2 hlook hc1
        generalize wr.heap.size = g at *
        go_loopw [38] (fun j wq => Inv8b wr g n2 j wq) (fun j _ => n2 - (intOf j).toNat)
        case atStart => exact unhide HI2
        case round =>
          obtain ⟨j, hj, rfl, hbq, hoq⟩ := hrel
          by_cases hjl : j < n2
          · obtain ⟨b1, off1, e, x, hcx⟩ := (unhide HCell) _ hbq j hjl
            cases e
            obtain ⟨xs, hxs, hrow⟩ := hoq
            have hxl : xs.length = n2 := by have := hrow.1; omega
            have hf1 := hrow.frozenAt j
            have hct1 : wr.cell? ⟨g, j, none⟩ = xs[j]? := hrow.cellAt j (by omega)
            rw [List.getElem?_eq_getElem (by omega)] at hct1
            generalize xs[j]'_ = old1 at hct1
            have hst1 := (hrow.stored j (.int .u8 x)).1
            have HI3 := hide (show Inv8b _ g n2 (.int .i64 ((j : Int) + 1)) (wr.setCell ⟨g, j, none⟩ (.int .u8 x)) from ⟨j + 1, by omega, by go_num, Below.setCell (p := ⟨g, j, none⟩) hbq (Nat.le_refl g) _, xs.set j (.int .u8 x), fun v hv => by
              rcases List.mem_or_eq_of_mem_set hv with h | h
              · exact hxs v h
              · exact ⟨x, h⟩, hst1⟩)
            clear hrow hst1 hbq hxs hxl
            go_wp2_with fail
            go_roundw
            case rel => exact unhide HI3
            case measure => simp [intOf]; omega
          · obtain ⟨ho1, hb1, hv1, hbs1, hcell1⟩ := (unhide HEnd) _ hbq hoq
            have HO1 := hide ho1
            have HB1 := hide hb1
            have HV1 := hide hv1
            have HBS1 := hide hbs1
            clear ho1 hb1 hv1 hbs1 hbq hoq
            go_wp2_with (at_mapUpdate; (refine wpList_mapUpdate_own _ rfl _ _ _ 22 rfl 9 31 law9 Try.underlying22 rdr w.heap.size k D' rfl (unhide HO1) (by unfold maxLen; omega) _ _ _ rfl rfl (key9 hkk) (.held (.slice (some ⟨g, 0, none⟩) n2 n2)) [] rfl ?_; intro w1 hown1 hgrow1))
            have HI4 : Hid (Inv8 w ks D (.int .i64 ((k : Int) + 1)) w1) := by
              refine ⟨k + 1, _, by omega, by go_num, hown1, (unhide HB1).grown hgrow1 (unhide HB1).size (fun j hj => by cases hj; exact Nat.le_refl _), fun x => ?_, (unhide HCp).put (unhide HO1).isMap (unhide HMem) (fun h => ⟨_, _, _, rfl⟩)⟩
              exact (bs_put (unhide HO1).isMap (unhide HV1) (unhide HBS1) s1 x).turned (unhide HO1) hgrow1
            clear hown1 hgrow1
            go_roundw
            case rel => exact unhide HI4
            case measure => simp [intOf]; omega
    · go_wp2_with fail
      go_ret
      exact ⟨_, D', rfl, ⟨.inr ⟨_, _, rfl, unhide HOwn⟩, unhide HBs⟩, Nat.le_trans (unhide HOwn).size_le (by omega), unhide HBel, unhide HCp⟩

theorem copy8_any {w : World} {m s : Value} {D : DataW Value} {ks : List ByteArray} (hm : Mv w m D) (hr : Rd w s ks) (hk : KeysOk D ks) (hn : ks.length ≤ 65536) (hsh : Short D ks) : Calls Try.prog 8 #[m, s] w (Post8 w ks D) := by
  rcases hm.1 with ⟨rfl, rfl⟩ | ⟨b, n, rfl, h⟩
  · clear hr hk hn hsh hm
    go_enter Try.func8, Try.ntmps8
    go_wp2_with fail
    go_ret
    exact ⟨_, .map [], rfl, mv_nil w, by simp [Maps.size], Below.refl _ _, fun _ k hk => by cases hk⟩
  · exact copy8 hm hr hk hn hsh
end Go.Proofs.Qxb6603884a
