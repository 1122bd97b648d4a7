/-
  OWN WORK. zzItoa_b1 of a number that is not negative: its decimal digits.
-/
import Derived.Test.Qxb6601023aGood
import Derived.Laws.BytesArg
import Derived.WalkKit
import Derived.ProofKit
namespace Go.Proofs.Qxb6601023a
open Go Go.RowKit
set_option linter.unusedVariables false
set_option linter.unusedSimpArgs false

def digs : Nat → Nat → List Int → List Int
  | 0, _, acc => acc
  | f + 1, v, acc => if v = 0 then acc else digs f (v / 10) (((48 + v % 10 : Nat) : Int) :: acc)
def itoaB (n : Nat) : ByteArray := if n = 0 then ⟨#[48]⟩ else strOfNums (digs 20 n [])

theorem pow20 {n : Nat} (h : n < 2 ^ 62) : n < 10 ^ 20 := by omega
theorem digs_zero (f : Nat) (acc : List Int) : digs f 0 acc = acc := by cases f <;> simp [digs]
theorem digs_step {f v : Nat} (acc : List Int) (h : v ≠ 0) : digs (f + 1) v acc = digs f (v / 10) (((48 + v % 10 : Nat) : Int) :: acc) := by simp [digs, h]

def Buf (w : World) (b k v n : Nat) : Prop :=
  ∃ (cs : Array Value) (ds : List Int), VarB w b cs ∧ cs.size = 20 ∧ k ≤ 20 ∧ cs.toList.drop k = ds.map (Value.int .u8) ∧ digs k v ds = digs 20 n [] ∧ v < 10 ^ k ∧ (k = 20 → v = n)

theorem Buf.step {w : World} {b k v n : Nat} (h : Buf w b k v n) (hv : v ≠ 0) : 0 < k ∧ Buf (w.setCell ⟨b, k - 1, none⟩ (.int .u8 ((48 + v % 10 : Nat) : Int))) b (k - 1) (v / 10) n := by
  obtain ⟨cs, ds, h1, h2, h3, h4, h5, h6, h7⟩ := h
  have hk : 0 < k := by
    cases k with
    | zero => simp at h6; omega
    | succ k => omega
  obtain ⟨j, rfl⟩ : ∃ j, k = j + 1 := ⟨k - 1, by omega⟩
  refine ⟨hk, cs.setIfInBounds j (.int .u8 ((48 + v % 10 : Nat) : Int)), ((48 + v % 10 : Nat) : Int) :: ds, h1.set _ (by omega), by simp [h2], by omega, ?_, ?_, ?_, by intro h; omega⟩
  · simp only [Nat.add_sub_cancel, List.map_cons]
    rw [← h4, Array.toList_setIfInBounds, List.drop_eq_getElem_cons (by simp [h2]; omega)]
    congr 1
    · simp
    · rw [List.drop_set_of_lt (by omega)]
  · simp only [Nat.add_sub_cancel]
    rw [← h5, digs_step _ hv]
  · simp only [Nat.add_sub_cancel]
    rw [Nat.pow_succ] at h6
    omega

theorem Buf.done {w : World} {b k n : Nat} (h : Buf w b k 0 n) (hn : 0 < n) : k < 20 ∧ (digs 20 n []).length = 20 - k ∧ ∀ i, i < 20 - k → w.cell? ⟨b, k + i, none⟩ = some (.int .u8 ((digs 20 n []).getD i 0)) := by
  obtain ⟨cs, ds, h1, h2, h3, h4, h5, h6, h7⟩ := h
  rw [digs_zero] at h5
  rw [← h5]
  clear h5
  have hl : ds.length = 20 - k := by
    have := congrArg List.length h4
    simp [h2] at this
    omega
  refine ⟨by omega, hl, fun i hi => ?_⟩
  rw [h1.2.1, ← Array.getElem?_toList]
  have : cs.toList[k + i]? = (cs.toList.drop k)[i]? := by simp
  rw [this, h4]
  simp [List.getD, List.getElem?_eq_getElem (show i < ds.length by omega)]

theorem run_slice62 (w : World) (b k : Nat) (hk : k < 20) : (Instr.sliceAt 62 (.pointer (some ⟨b, 0, none⟩)) (some (.int .i64 k)) none none).run Try.prog w = .ok (.slice (some ⟨b, k, none⟩) (20 - k) (20 - k)) w := by
  have h1 : ¬ (20 = k) := by omega
  have h3 : (k : Int) ≤ 20 := by omega
  have hz : k = 0 → (⟨b, 0, none⟩ : Addr) = ⟨b, k, none⟩ := fun h => by rw [h]
  rw [run_sliceAt_array_l (P := Try.prog) w 62 ⟨b, 0, none⟩ (by kernel_rfl) .i64 k (by omega) (by exact h3)]
  show (Result.ok (slicedAt ⟨b, 0, none⟩ (k : Int).toNat 20 20 1) w) = _
  simp only [slicedAt, Int.toNat_natCast, h1, if_false, Nat.mul_one, Addr.add]
  by_cases e : k = 0
  · subst e; rfl
  · simp [e]

set_option maxRecDepth 100000 in
theorem itoa45 (n : Nat) (h2 : n < 2^62) (w : World) : Calls Try.prog 45 #[.int .i64 n] w fun e w' => e = .returned (.string (itoaB n)) ∧ Below w.heap.size w w' := by
  have h3 : (n : Int) < 4611686018427387904 := by omega
  by_cases h : n = 0
  · subst h
    go_enter Try.func45, Try.ntmps45
    go_wp2
    go_ret
    exact ⟨rfl, Below.refl _ _⟩
  have h0 : 0 < n := by omega
  clear h h3
  go_enter Try.func45, Try.ntmps45
  go_wp2_with fail
  have hB : Buf (w.alloc (.cells #[.int .u8 0, .int .u8 0, .int .u8 0, .int .u8 0, .int .u8 0, .int .u8 0, .int .u8 0, .int .u8 0, .int .u8 0, .int .u8 0, .int .u8 0, .int .u8 0, .int .u8 0, .int .u8 0, .int .u8 0, .int .u8 0, .int .u8 0, .int .u8 0, .int .u8 0, .int .u8 0] 62)) w.heap.size 20 n n :=
    ⟨_, [], VarB.new _ 62 rfl, rfl, Nat.le_refl _, rfl, rfl, pow20 h2, fun _ => rfl⟩
  have hb0 := (Below.refl w.heap.size w).alloc (Nat.le_refl _) (.cells #[.int .u8 0, .int .u8 0, .int .u8 0, .int .u8 0, .int .u8 0, .int .u8 0, .int .u8 0, .int .u8 0, .int .u8 0, .int .u8 0, .int .u8 0, .int .u8 0, .int .u8 0, .int .u8 0, .int .u8 0, .int .u8 0, .int .u8 0, .int .u8 0, .int .u8 0, .int .u8 0] 62)
  have HB0 := hide hB
  have HB1 := hide hb0
  clear hB hb0
  go_loopw [4, 6] (fun v i wr => ∃ k x : Nat, i = .int .i64 k ∧ v = .int .u64 x ∧ k ≤ 20 ∧ x ≤ n ∧ Buf wr w.heap.size k x n ∧ Below w.heap.size w wr) (fun v _ _ => (intOf v).toNat)
  case atStart => exact ⟨20, n, rfl, rfl, by omega, by omega, unhide HB0, unhide HB1⟩
  case round =>
    obtain ⟨k, x, rfl, rfl, hk, hx, hbuf, hbel⟩ := hrel
    have HB := hide hbuf
    have HL := hide hbel
    by_cases hx0 : x = 0
    · subst hx0
      clear hbel
      obtain ⟨hk20, hlen, hcell⟩ := hbuf.done h0
      have HC := hide hcell
      clear hcell hbuf
      go_wp2_with fail
      rw [run_slice62 _ _ _ hk20]
      go_wp2_with fail
      rw [run_convert_bytes_arg wr 63 5 Try.underlying63 Try.underlying5 _ k _ _ (digs 20 n []) hlen (unhide HC) 9 Try.underlying9]
      go_wp2_with fail
      go_ret
      exact ⟨by simp [itoaB, Nat.ne_of_gt h0], unhide HL⟩
    · obtain ⟨hk0, hst⟩ := hbuf.step hx0
      obtain ⟨cs, ds, hv, hcs, -⟩ := hbuf
      have hcell : wr.cell? ⟨w.heap.size, k - 1, none⟩ = cs[k - 1]? := hv.2.1 _
      have hfr : wr.frozen? ⟨w.heap.size, k - 1, none⟩ = false := hv.2.2 _
      rw [Array.getElem?_eq_getElem (by omega)] at hcell
      have HST := hide hst
      clear hst hbel hv
      go_wp2_with fail
      go_roundw
      case rel =>
        refine ⟨k - 1, x / 10, ?_, ?_, by omega, by omega, ?_, ?_⟩
        · go_num
        · go_num
        · exact unhide HST
        · exact (unhide HL).setCell (Nat.le_refl _) _
      case measure => simp [intOf]; omega
end Go.Proofs.Qxb6601023a
