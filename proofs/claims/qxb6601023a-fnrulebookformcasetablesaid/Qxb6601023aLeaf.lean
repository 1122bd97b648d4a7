/-
  OWN WORK. The two closures of rulebookForm: 'threshold' (42) and 'rule' (43).
-/
import Derived.Test.Qxb6601023aReads
import Derived.Test.Qxb6601023aTrees
import Derived.Deep.AppendLies
namespace Go.Proofs.Qxb6601023a
open Go.RowKit
set_option linter.unusedVariables false

theorem leafIs {X : List Nat} {w : World} {n : Nat} {sk sb : Value} {nm nb lo : ByteArray} {ar : Bool} {ks bs : List ByteArray} (hk : Strs X w sk ks) (hb : Bases X w sb bs) :
    FormIs X (n + 1) w (.agg #[.string nm, .bool ar, .string nb, .string lo, sk, .slice none 0 0, .slice none 0 0, .slice none 0 0, .slice none 0 0, sb, .slice none 0 0])
      ({ name := nm, array := ar, needed := nb, left := lo, keys := ks, optional := [], together := [], oneOf := [], counts := [], bases := bs, tables := [] : FNode (FTree n) } : FTree (n + 1)) :=
  ⟨sk, .slice none 0 0, .slice none 0 0, .slice none 0 0, .slice none 0 0, sb, .slice none 0 0, rfl, hk, Own.nil _ _ _ _, ⟨[], Own.nil _ _ _ _, rfl, fun i v l h => by simp at h⟩, Own.nil _ _ _ _, Own.nil _ _ _ _, hb,
    ⟨[], Own.nil _ _ _ _, rfl, fun i v l h => by simp at h⟩⟩

theorem not_mem_of_lt {X : List Nat} {n k : Nat} (hX : ∀ k ∈ X, k < n) (h : n ≤ k) : k ∉ X := fun hm => by have := hX k hm; omega
theorem bcell {W w1 : World} (hb : Below W.heap.size W w1) : (∀ b o, b < W.heap.size → w1.cell? ⟨b, o, none⟩ = W.cell? ⟨b, o, none⟩) ∧ (∀ b o, b < W.heap.size → w1.frozen? ⟨b, o, none⟩ = W.frozen? ⟨b, o, none⟩) :=
  ⟨fun b o h => hb.cell (p := ⟨b, o, none⟩) h, fun b o h => hb.frozen (p := ⟨b, o, none⟩) h⟩
theorem cell_up {w w' : World} {b o : Nat} {v : Value} (hb : Below w.heap.size w w') (hl : b < w.heap.size) (h : w.cell? ⟨b, o, none⟩ = some v) : w'.cell? ⟨b, o, none⟩ = some v := by
  rw [hb.cell (p := ⟨b, o, none⟩) hl]; exact h

theorem Own.grown {X : List Nat} {W : World} {B e n size : Nat} (w : World) (need old : Nat) (te : TypeId) {cs : Array Value} {xs : List Value} (z : Array Value) (hz : z.size = size)
    (hb : W.heap[B]? = some (.cells (cs ++ Builtin.zeroCells z (grownCap w need old te - n)) e (0, 0))) (hn : need = n) (hm : n ≤ maxLen) (hs : cs.size = n * size) (hX : B ∉ X) (hx : cs.toList = xs) (hpos : 0 < n := by first | decide | omega) :
    Own X W e size (.slice (some ⟨B, 0, none⟩) n (grownCap w need old te)) n xs := by
  subst hx hn
  have hge := grownCap_ge w need old te
  refine ⟨⟨by simpa using hs, .inr ⟨B, _, _, rfl, Nat.zero_le _, hb, hge, grownCap_le_maxLen w need old te hm, ?_, ?_⟩⟩, fun g hg => ?_, fun h0 => absurd h0 (by omega)⟩
  · rw [Array.size_append, size_zeroCells, hs, hz, ← Nat.add_mul]
    congr 1
    omega
  · rw [Array.toList_append]
    have h : need * size = cs.toList.length := by simp [hs]
    rw [h]
    exact List.take_left
  · have : B = g := by simpa [Value.ownBlock] using hg
    exact this ▸ hX

/-- What 'threshold' hands back. -/
def thrV (nm nb : ByteArray) (N : Nat) (sb : Value) : Array Value := #[.string nm, .bool false, .string nb, .string k_no_rule, .slice (some ⟨N + 1, 0, none⟩) 3 3, .slice none 0 0, .slice none 0 0, .slice none 0 0, .slice none 0 0, sb, .slice none 0 0]
def thrK : Array Value := #[.string k_base, .string k_bound, .string k_share]

set_option maxHeartbeats 400000 in
theorem thr42x (nm nb : ByteArray) (b4 : Nat) (a : Option Addr) (n c : Nat) (w : World) (h4 : w.cell? ⟨b4, 0, none⟩ = some (.slice a n c)) (hl4 : b4 < w.heap.size) :
    Calls Try.prog 42 #[.string nm, .string nb, .pointer (some ⟨b4, 0, none⟩)] w fun e w' => e = .returned (.agg (thrV nm nb w.heap.size (.slice a n c))) ∧ w' = (w.alloc (.cells (thrV nm nb w.heap.size (.slice a n c)) 30)).alloc (.cells thrK 9) := by
  go_enter Try.func42, Try.ntmps42
  go_wp2
  exact bodyPost_ret (v := .agg (thrV nm nb w.heap.size (.slice a n c))) (by simp [results, Try.results42, go_sem, thrV]) rfl ⟨rfl, rfl⟩

theorem thr42 {X : List Nat} (nm nb : ByteArray) (b4 : Nat) {sb : Value} {bl : List ByteArray} {w : World} (hX : ∀ k ∈ X, k < w.heap.size) (h4 : w.cell? ⟨b4, 0, none⟩ = some sb) (hl4 : b4 < w.heap.size) (hb : Bases X w sb bl) :
    Calls Try.prog 42 #[.string nm, .string nb, .pointer (some ⟨b4, 0, none⟩)] w fun e w' => ∃ v, e = .returned v ∧ (∀ n, FormIs X (n + 1) w' v (thrT n nm nb bl)) ∧ Below w.heap.size w w' ∧ w'.heap.size = w.heap.size + 2 := by
  obtain ⟨a, c, hs, _⟩ := Own.form hb
  subst hs
  refine (thr42x nm nb b4 a _ c w h4 hl4).mono ?_
  rintro e w' ⟨rfl, rfl⟩
  refine ⟨_, rfl, fun n => leafIs ?_ ?_, ((Below.refl _ _).alloc (Nat.le_refl _) _).alloc (by simp) _, by simp⟩
  · exact Own.of_block (cs := thrK) (blk_top _ _ (by simp)) (not_mem_of_lt hX (by omega)) (by decide) rfl rfl
  · exact hb.keep (((Keep.refl _ _).alloc _).alloc _)

set_option maxHeartbeats 1000000 in
theorem rule43 {X : List Nat} (nm nb : ByteArray) (b4 b5 : Nat) {sb : Value} {bl : List ByteArray} {w : World} (hX : ∀ k ∈ X, k < w.heap.size)
    (h5 : w.cell? ⟨b5, 0, none⟩ = some (.func (.func 42) #[] #[.pointer (some ⟨b4, 0, none⟩)])) (hl5 : b5 < w.heap.size)
    (h4 : w.cell? ⟨b4, 0, none⟩ = some sb) (hl4 : b4 < w.heap.size) (hb : Bases X w sb bl) :
    Calls Try.prog 43 #[.string nm, .string nb, .pointer (some ⟨b5, 0, none⟩)] w fun e w' => ∃ v, e = .returned v ∧ (∀ n, FormIs X (n + 1) w' v (ruleT n false nm nb bl)) ∧ Below w.heap.size w w' ∧ w'.heap.size = w.heap.size + 6 := by
  obtain ⟨a, c, hs, _⟩ := Own.form hb
  subst hs
  have HB : Hid (Bases X w (.slice a bl.length c) bl) := hb
  clear hb
  go_enter Try.func43, Try.ntmps43
  go_wp2_with fail
  refine (thr42x nm nb b4 a bl.length c _ ?_ ?_).mono ?_
  · exact cell_up ((Below.refl _ _).alloc (Nat.le_refl _) _) hl4 h4
  · simp; omega
  rintro e w1 ⟨rfl, rfl⟩
  simp only [thrV, thrK]
  go_wp2
  refine bodyPost_ret (v := .agg #[.string nm, .bool false, .string nb, .string k_no_rule, .slice (some ⟨w.heap.size + 1 + 1 + 1 + 1 + 1, 0, none⟩) 4 (grownCap w 4 3 9), .slice none 0 0, .slice none 0 0, .slice none 0 0, .slice none 0 0, .slice a bl.length c, .slice none 0 0])
    (by simp [results, Try.results43, go_sem, grownCap]) rfl ⟨_, rfl, fun n => leafIs ?_ ?_, ?_, by simp⟩
  · refine Own.grown w 4 3 9 (cs := #[.string k_base, .string k_bound, .string k_share, .string k_article]) #[.string k_empty] rfl (blk_top _ _ (by simp)) rfl (by decide) rfl (not_mem_of_lt hX (by omega)) rfl
  · exact HB.out.keep (Keep.drew (((((((Keep.refl _ _).alloc _).alloc _).alloc _).alloc _).alloc _).alloc _))
  · exact ((((((((Below.refl _ _).alloc (Nat.le_refl _) _).alloc (by simp) _).alloc (by simp; omega) _).alloc (by simp; omega) _).alloc (by simp; omega) _).alloc (by simp; omega) _)).drew
end Go.Proofs.Qxb6601023a
