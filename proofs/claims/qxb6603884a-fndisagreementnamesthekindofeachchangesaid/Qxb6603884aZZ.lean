/-
  OWN WORK. ZZDifferences: the changes as two slices.
-/
import Derived.Test.Qxb6603884aDiff
import Derived.Laws.Cover3
namespace Go.Proofs.Qxb6603884a
open Go Go.RowKit
set_option linter.unusedVariables false
set_option linter.unusedSimpArgs false

theorem run_eql36 (w : World) (a : Option Addr) (l c : Nat) : (binOp .eql 36 (.slice a l c) (.slice none 0 0)).run Try.prog w = .ok (.bool a.isNone) w := by
  simp only [binOp]
  simp [run_equal_slice_nil w 36 39 a l c Try.underlying36]
theorem run_eql31 (w : World) (a : Option Addr) (l c : Nat) : (binOp .eql 31 (.slice a l c) (.slice none 0 0)).run Try.prog w = .ok (.bool a.isNone) w := by
  simp only [binOp]
  simp [run_equal_slice_nil w 31 5 a l c Try.underlying31]
attribute [local go_sem] run_eql36 run_eql31

def filled (zs xs : List Value) (k : Nat) : List Value := xs.take k ++ zs.drop k
theorem filled_succ {zs xs : List Value} {k : Nat} (hz : zs.length = xs.length) (hk : k < xs.length) : (filled zs xs k).set k xs[k] = filled zs xs (k + 1) := by
  unfold filled
  rw [List.take_succ_eq_append_getElem hk, List.set_append_right _ _ (by simp; omega)]
  have : k - (xs.take k).length = 0 := by simp; omega
  rw [this, List.append_assoc]
  congr 1
  rw [List.drop_eq_getElem_cons (by omega)]
  rfl
theorem filled_all {zs xs : List Value} (hz : zs.length = xs.length) : filled zs xs xs.length = xs := by
  unfold filled
  rw [List.take_of_length_le (Nat.le_refl _), List.drop_of_length_le (by omega), List.append_nil]

def paths (l : List Ch) : List ByteArray := l.map (·.1)
def conts (l : List Ch) : List Sl := l.map (·.2)
def Post9 (w : World) (Dh Dw : DataW Value) (e : Ending) (w' : World) : Prop :=
  ∃ p c l, e = .returned (.tuple #[p, c]) ∧ Rd w' p (paths l) ∧ RdV w' c (conts l) ∧ Below w.heap.size w w' ∧ Ok Dw l ∧ l.length ≤ 200000 ∧ l.Pairwise Le ∧ Coll Dh Dw (fun _ => false) l

theorem RdC.below {w w' : World} {s : Value} {l : List Ch} (h : RdC w s l) (hb : Below w.heap.size w w') : RdC w' s l := by
  obtain ⟨a, c, e, h2⟩ := h
  refine ⟨a, c, e, fun k hk => ?_⟩
  obtain ⟨b, off, ea, hlt, hc, hd⟩ := h2 k hk
  exact ⟨b, off, ea, Nat.lt_of_lt_of_le hlt hb.size, by rw [hb.cell (p := ⟨b, off + k * 2, none⟩) hlt]; exact hc, by rw [hb.cell (p := ⟨b, off + k * 2 + 1, none⟩) hlt]; exact hd⟩

def InvZ (w w1 : World) (l : List Ch) (b1 b2 : Nat) (zs ys : List Value) (i : Value) (wr : World) : Prop :=
  ∃ k : Nat, k ≤ l.length ∧ i = .int .i64 k ∧ Below w.heap.size w wr ∧ Below b1 w1 wr ∧
    wr.ownsRow w.heap.size 9 1 (.slice (some ⟨b1, 0, none⟩) l.length l.length) l.length (filled zs ((paths l).map .string) k) ∧
    wr.ownsRow w.heap.size 31 1 (.slice (some ⟨b2, 0, none⟩) l.length l.length) l.length (filled ys ((conts l).map sl) k)

set_option maxRecDepth 100000 in
set_option maxHeartbeats 1000000 in
theorem zz9 (hsort : SortOk) {w : World} {hv wv : Value} {Dh Dw : DataW Value} (hh : Mv w hv Dh) (hw : Mv w wv Dw) (sh : Maps.size Dh ≤ 65536) (sw : Maps.size Dw ≤ 65536) :
    Calls Try.prog 9 #[hv, wv] w (Post9 w Dh Dw) := by
  have HD := hide (diff13 hsort hh hw sh sw)
  clear hsort hh hw sh sw
  go_enter Try.func9, Try.ntmps9
  go_wp2_with fail
  refine (unhide HD).mono ?_
  rintro e w1 ⟨s, l, rfl, hrd, hbel, hok, hlen, hpw, hcoll⟩
  clear HD
  obtain ⟨a, c, rfl, hcell⟩ := id hrd
  have HRd := hide hrd
  have HBel := hide hbel
  have HOk := hide hok
  have HPw := hide hpw
  have HCo := hide hcoll
  have HC := hide hcell
  clear hrd hbel hok hpw hcoll hcell
  cases a with
  | none =>
    go_wp2_with fail
    go_ret2
    have hl : l = [] := by
      cases l with
      | nil => rfl
      | cons y r =>
        obtain ⟨b, off, e, _⟩ := (unhide HC) 0 (by simp)
        cases e
    subst hl
    exact ⟨_, _, [], rfl, ⟨none, 0, rfl, Nat.zero_le _, fun k hk => absurd hk (Nat.not_lt_zero _)⟩, ⟨none, 0, rfl, Nat.zero_le _, fun k hk => absurd hk (Nat.not_lt_zero _)⟩, unhide HBel, unhide HOk, hlen, unhide HPw, unhide HCo⟩
  | some a =>
    obtain ⟨w2, hr2, hown2, hgr2⟩ := run_makeSlice_full (P := Try.prog) (w := w1) w.heap.size 23 9 Try.t9 (.string ⟨#[]⟩) 1 Try.underlying23 info9 (by kernel_rfl) (by kernel_rfl) .i64 .i64 l.length (by omega) (by show 16 * l.length ≤ _; omega) (by unfold maxLen; omega) (unhide HBel).size
    obtain ⟨w3, hr3, hown3, hgr3⟩ := run_makeSlice_full (P := Try.prog) (w := w2) w.heap.size 28 31 Try.t31 (.slice none 0 0) 1 Try.underlying28 info31 (by kernel_rfl) (by kernel_rfl) .i64 .i64 l.length (by omega) (by show 24 * l.length ≤ _; omega) (by unfold maxLen; omega) (Nat.le_trans (unhide HBel).size hgr2.size)
    generalize (madeCells (Value.string ⟨#[]⟩).cells (l.length * 1)).toList = zs at hown2
    generalize (madeCells (Value.slice none 0 0).cells (l.length * 1)).toList = ys at hown3
    have hzl : zs.length = l.length := by have := hown2.1; omega
    have hyl : ys.length = l.length := by have := hown3.1; omega
    have hb12 : Below w1.heap.size w1 w2 := (Below.refl _ _).grown hgr2 (Nat.le_refl _) (fun b e => by cases e)
    have hb23 : Below w2.heap.size w2 w3 := (Below.refl _ _).grown hgr3 (Nat.le_refl _) (fun b e => by cases e)
    have HI : Hid (InvZ w w1 l w1.heap.size w2.heap.size zs ys (.int .i64 (0 : Nat)) w3) := by
      refine ⟨0, Nat.zero_le _, rfl, ((unhide HBel).trans (hb12.mono (unhide HBel).size)).trans (hb23.mono (Nat.le_trans (unhide HBel).size hgr2.size)), hb12.trans (hb23.mono hgr2.size), ?_, ?_⟩
      · simpa [filled] using ownsRow_below hown2 hb23
      · simpa [filled] using hown3
    have hb1lt : w1.heap.size < w2.heap.size := (World.ownsRow.lt hown2 _ rfl).2
    have hBle := (unhide HBel).size
    clear HBel HRd hown2 hown3 hgr2 hgr3 hb12 hb23
    have HZ := hide hzl
    have HY := hide hyl
    clear hzl hyl
    go_wp2_with fail
    clear hr2 hr3
    generalize w1.heap.size = b1 at *
    generalize w2.heap.size = b2 at *
    go_loopw [23] (fun i wr => InvZ w w1 l b1 b2 zs ys i wr) (fun i _ => l.length - (intOf i).toNat)
    case atStart => exact unhide HI
    case round =>
      obtain ⟨k, hk, rfl, hbel, hb1w, ho1, ho2⟩ := hrel
      have HBel := hide hbel
      have HB1w := hide hb1w
      have HO1 := hide ho1
      have HO2 := hide ho2
      clear hbel hb1w
      by_cases hlt : k < l.length
      · obtain ⟨b, off, e, hbl, hc1, hc2⟩ := (unhide HC) k hlt
        cases e
        have hc1' : wr.cell? ⟨b, off + k * 2, none⟩ = some (.string l[k].1) := by rw [(unhide HB1w).cell (p := ⟨b, off + k * 2, none⟩) hbl]; exact hc1
        have hf1 := ho1.frozenAt k
        have hct1 : wr.cell? ⟨b1, k, none⟩ = (filled zs ((paths l).map .string) k)[k]? := ho1.cellAt k (by omega)
        rw [List.getElem?_eq_getElem (by have := ho1.1; omega)] at hct1
        generalize (filled zs ((paths l).map Value.string) k)[k]'_ = old1 at hct1
        have hst1 := (ho1.stored k (.string l[k].1)).1
        have hnb1 : b ≠ b1 := by omega
        have hW1 : Below b1 wr (wr.setCell ⟨b1, k, none⟩ (.string l[k].1)) := Below.setCell (p := ⟨b1, k, none⟩) (Below.refl b1 wr) (Nat.le_refl b1) _
        have hc2' : (wr.setCell ⟨b1, k, none⟩ (.string l[k].1)).cell? ⟨b, off + k * 2 + 1, none⟩ = some (.slice l[k].2.1 l[k].2.2.1 l[k].2.2.2) := by
          rw [hW1.cell (p := ⟨b, off + k * 2 + 1, none⟩) hbl, (unhide HB1w).cell (p := ⟨b, off + k * 2 + 1, none⟩) hbl]; exact hc2
        have ho2' := ownsRow_stays (w' := wr.setCell ⟨b1, k, none⟩ (.string l[k].1)) ho2 (fun g hg => by cases hg; exact Below.heap_setCell _ _ _ _ (by show b2 ≠ b1; omega))
        have hf2 := ho2'.frozenAt k
        have hct2 : (wr.setCell ⟨b1, k, none⟩ (.string l[k].1)).cell? ⟨b2, k, none⟩ = (filled ys ((conts l).map sl) k)[k]? := ho2'.cellAt k (by omega)
        rw [List.getElem?_eq_getElem (by have := ho2'.1; omega)] at hct2
        generalize (filled ys ((conts l).map sl) k)[k]'_ = old2 at hct2
        have hst2 := (ho2'.stored k (.slice l[k].2.1 l[k].2.2.1 l[k].2.2.2)).1
        have hst1' := ownsRow_stays (w' := (wr.setCell ⟨b1, k, none⟩ (.string l[k].1)).setCell ⟨b2, k, none⟩ (.slice l[k].2.1 l[k].2.2.1 l[k].2.2.2)) hst1 (fun g hg => by cases hg; exact Below.heap_setCell _ _ _ _ (by show b1 ≠ b2; omega))
        have HST1 := hide hst1'
        have HST2 := hide hst2
        clear hc1 hc2 hst1 hst2 hst1' ho1 ho2 ho2' hW1
        generalize hW : wr.setCell ⟨b1, k, none⟩ (.string l[k].1) = W1 at *
        go_wp2_with fail
        go_roundw
        case rel =>
          have s1 := filled_succ (zs := zs) (xs := (paths l).map .string) (k := k) (by rw [unhide HZ]; simp [paths]) (by simpa [paths] using hlt)
          have s2 := filled_succ (zs := ys) (xs := (conts l).map sl) (k := k) (by rw [unhide HY]; simp [conts]) (by simpa [conts] using hlt)
          subst hW
          refine ⟨k + 1, by omega, by go_num, Below.setCell (p := ⟨b2, k, none⟩) (Below.setCell (p := ⟨b1, k, none⟩) (unhide HBel) hBle _) (by show _ ≤ b2; omega) _, Below.setCell (p := ⟨b2, k, none⟩) (Below.setCell (p := ⟨b1, k, none⟩) (unhide HB1w) (Nat.le_refl _) _) (by show _ ≤ b2; omega) _, ?_, ?_⟩
          · rw [← s1]
            have h := unhide HST1
            simpa [paths] using h
          · rw [← s2]
            have h := unhide HST2
            simpa [conts, sl] using h
        case measure => simp [intOf]; omega
      · clear ho1 ho2
        go_wp2_with fail
        go_ret2
        have hkl : k = l.length := by omega
        subst hkl
        have h1 := unhide HO1
        have h2 := unhide HO2
        have e1 : l.length = ((paths l).map Value.string).length := by simp [paths]
        have e2 : l.length = ((conts l).map sl).length := by simp [conts]
        have h3 : filled zs ((paths l).map .string) l.length = (paths l).map .string := by rw [e1]; exact filled_all (by rw [unhide HZ]; simp [paths])
        have h4 : filled ys ((conts l).map sl) l.length = (conts l).map sl := by rw [e2]; exact filled_all (by rw [unhide HY]; simp [conts])
        rw [h3] at h1
        rw [h4] at h2
        have e3 : l.length = (paths l).length := by simp [paths]
        have e4 : l.length = (conts l).length := by simp [conts]
        refine ⟨_, _, l, rfl, rd_of_row (base := w.heap.size) (by rw [← e3]; exact h1), rdV_of_row (base := w.heap.size) (by rw [← e4]; exact h2), unhide HBel, unhide HOk, hlen, unhide HPw, unhide HCo⟩
end Go.Proofs.Qxb6603884a
