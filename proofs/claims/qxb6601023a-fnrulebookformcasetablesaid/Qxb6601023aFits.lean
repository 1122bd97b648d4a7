/-
  OWN WORK. The two trees are small; their encodings' lengths.
-/
import Derived.Test.Qxb6601023aWantB
namespace Go.Proofs.Qxb6601023a
open Go Go.RowKit

def encSz : (n : Nat) → FTree n → Nat
  | 0, t => nomatch t
  | n + 1, t => sNode (FNode.name t).size (FNode.needed t).size (FNode.left t).size ((FNode.keys t).map ByteArray.size) ((FNode.optional t).map ByteArray.size) ((FNode.together t).map fun g => g.map ByteArray.size) ((FNode.oneOf t).map ByteArray.size) ((FNode.counts t).map fun c => sStr c.1.size + sStr c.2.1.size + sStr (itoaB c.2.2.toNat).size) ((FNode.bases t).map ByteArray.size) ((FNode.tables t).map (encSz n))
theorem enc_sz : ∀ (n : Nat) (t : FTree n), (enc n t).size = encSz n t
  | 0, t => nomatch t
  | n + 1, t => by
    have e1 : ((FNode.counts t).map countB).map ByteArray.size = (FNode.counts t).map fun c => sStr c.1.size + sStr c.2.1.size + sStr (itoaB c.2.2.toNat).size := by
      rw [List.map_map]
      exact List.map_congr_left fun c _ => encCount_sz _ _ _
    have e2 : ((FNode.tables t).map (enc n)).map ByteArray.size = (FNode.tables t).map (encSz n) := by
      rw [List.map_map]
      exact List.map_congr_left fun t' _ => enc_sz n t'
    unfold enc encSz
    rw [nodeB_sz, e1, e2]
def fitB : (n : Nat) → FTree n → Bool
  | 0, t => nomatch t
  | n + 1, t => decide ((FNode.together t).length ≤ 1000) && (decide ((FNode.counts t).length ≤ 1000) && (decide ((FNode.bases t).length ≤ 1000) && (decide ((FNode.tables t).length ≤ 1000) && ((FNode.counts t).all (fun c => decide (0 ≤ c.2.2) && decide (c.2.2 < 1000)) && (FNode.tables t).all (fitB n)))))
theorem fit_of : ∀ (n : Nat) (t : FTree n), fitB n t = true → Fit n t
  | 0, t, _ => nomatch t
  | n + 1, t, h => by
    unfold fitB at h
    simp only [Bool.and_eq_true, decide_eq_true_eq, List.all_eq_true] at h
    obtain ⟨h1, h2, h3, h4, h5, h6⟩ := h
    exact ⟨h1, h2, h3, h4, h5, fun t' ht => fit_of n t' (h6 t' ht)⟩
theorem fit_sh : Fit 6 shTree := fit_of _ _ (by decide +kernel)
theorem fit_bd : Fit 6 bdTree := fit_of _ _ (by decide +kernel)
theorem size_sh : (enc 6 shTree).size < 2 ^ 62 := by rw [enc_sz]; decide +kernel
theorem size_bd : (enc 6 bdTree).size < 2 ^ 62 := by rw [enc_sz]; decide +kernel
end Go.Proofs.Qxb6601023a
