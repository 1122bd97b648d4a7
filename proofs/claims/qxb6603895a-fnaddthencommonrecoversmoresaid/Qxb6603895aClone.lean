/-
  OWN WORK. zzClone: a row of its own that reads as the argument.
-/
import Derived.Test.Qxb6603895aWalks1
import Derived.Laws.Cover3
namespace Go.Proofs.Qxb6603895a
open Go Go.RowKit
set_option linter.unusedVariables false
set_option linter.unusedSimpArgs false

theorem run_eql22 (w : World) (a : Option Addr) (l c : Nat) : (binOp .eql 22 (.slice a l c) (.slice none 0 0)).run Try.prog w = .ok (.bool a.isNone) w := by
  simp only [binOp]
  simp [run_equal_slice_nil w 22 9 a l c Try.underlying22]
attribute [local go_sem] run_eql22

def filled (zs : List Value) (l : List ByteArray) (k : Nat) : List Value := (l.take k).map .string ++ zs.drop k
theorem filled_succ {zs : List Value} {l : List ByteArray} {k : Nat} (hz : zs.length = l.length) (hk : k < l.length) : (filled zs l k).set k (.string l[k]) = filled zs l (k + 1) := by
  unfold filled
  rw [List.take_succ_eq_append_getElem hk, List.map_append, List.set_append_right _ _ (by simp; omega)]
  have : k - ((l.take k).map Value.string).length = 0 := by simp; omega
  rw [this, List.append_assoc]
  congr 1
  rw [List.drop_eq_getElem_cons (by omega)]
  rfl

def Post8 (w : World) (l : List ByteArray) (e : Ending) (w' : World) : Prop := ∃ s, e = .returned s ∧ w'.ownsRow w.heap.size 9 1 s l.length (l.map .string) ∧ Below w.heap.size w w'

set_option maxRecDepth 100000 in
theorem clone8_some {w : World} {p : Addr} {c : Nat} {l : List ByteArray} (h : Rd w (.slice (some p) l.length c) l) (h4 : l.length ≤ 4096) : Calls Try.prog 8 #[.slice (some p) l.length c] w (Post8 w l) := by
  have hc := h.at.2.2
  obtain ⟨w1, hr, hown, hgr⟩ := run_makeSlice_full (P := Try.prog) (w := w) w.heap.size 22 9 Try.t9 (.string ⟨#[]⟩) 1 Try.underlying22 info9 (by kernel_rfl) (by kernel_rfl) .i64 .i64 l.length (by omega) (by show 16 * l.length ≤ _; omega) (by unfold maxLen; omega) (Nat.le_refl _)
  generalize hzs : (madeCells (Value.string ⟨#[]⟩).cells (l.length * 1)).toList = zs at hown
  have hzl : zs.length = l.length := by have := hown.1; omega
  have hb1 : Below w.heap.size w w1 := ⟨hgr.os, hgr.tape, hgr.output, hgr.size, fun k hk => hgr.block k hk (by simp)⟩
  have HC := hide hc
  have HO := hide hown
  have HB := hide hb1
  have HZ := hide hzl
  clear hc hown hgr hb1 h hzs hzl
  go_enter Try.func8, Try.ntmps8
  go_wp2
  clear hr
  go_loopw [4] (fun i wr => ∃ k : Nat, k ≤ l.length ∧ i = .int .i64 k ∧ Below w.heap.size w wr ∧ wr.ownsRow w.heap.size 9 1 (.slice (some ⟨w.heap.size, 0, none⟩) l.length l.length) l.length (filled zs l k)) (fun i _ => l.length - (intOf i).toNat)
  case atStart => exact ⟨0, Nat.zero_le _, rfl, unhide HB, by simpa [filled] using unhide HO⟩
  case round =>
    obtain ⟨k, hk, rfl, hbr, hor⟩ := hrel
    have HBR := hide hbr
    have HOR := hide hor
    by_cases hlt : k < l.length
    · obtain ⟨b, off, e, hbl, hcell⟩ := (unhide HC) k hlt
      cases e
      have hcell2 : wr.cell? ⟨b, off + k, none⟩ = some (.string l[k]) := by rw [hbr.cell (p := ⟨b, off + k, none⟩) hbl]; exact hcell
      have hfr := hor.frozenAt k
      have hct : wr.cell? ⟨w.heap.size, k, none⟩ = (filled zs l k)[k]? := hor.cellAt k (by omega)
      have hfl : k < (filled zs l k).length := by have := hor.1; omega
      rw [List.getElem?_eq_getElem hfl] at hct
      generalize (filled zs l k)[k] = old at hct
      have HST := hide (hor.stored k (.string l[k])).1
      have HSU := hide (filled_succ (unhide HZ) hlt)
      clear hcell hbr hor hfl
      go_wp2
      go_roundw
      case rel =>
        refine ⟨k + 1, by omega, by go_num, (unhide HBR).setCell (Nat.le_refl _) _, ?_⟩
        rw [← unhide HSU]
        exact unhide HST
      case measure => simp [intOf]; omega
    · clear hbr hor
      go_wp2
      go_ret
      refine ⟨_, rfl, ?_, unhide HBR⟩
      have h3 := unhide HOR
      have hz := unhide HZ
      unfold filled at h3
      rw [List.take_of_length_le (by omega), List.drop_of_length_le (by omega), List.append_nil] at h3
      exact h3

theorem clone8 {w : World} {s : Value} {l : List ByteArray} (h : Rd w s l) (h4 : l.length ≤ 4096) : Calls Try.prog 8 #[s] w (Post8 w l) := by
  obtain ⟨a, c, rfl, h1, h2⟩ := id h
  cases a with
  | some p => exact clone8_some h h4
  | none =>
    have hl : l = [] := by
      cases l with
      | nil => rfl
      | cons y r =>
        obtain ⟨b, off, e, _⟩ := h2 0 (by simp)
        cases e
    subst hl
    go_enter Try.func8, Try.ntmps8
    go_wp2
    go_ret
    exact ⟨_, rfl, World.ownsRow_nil _ _ _ _, Below.refl _ _⟩
end Go.Proofs.Qxb6603895a
