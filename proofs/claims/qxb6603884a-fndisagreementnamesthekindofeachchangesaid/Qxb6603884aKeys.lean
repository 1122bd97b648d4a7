/-
  OWN WORK. zzKeys: the keys of a map, in order; zzBytes.
-/
import Derived.Test.Qxb6603884aZZ
import Derived.Test.Qxb6603884aOrd
import Derived.BigQuiet
namespace Go.Proofs.Qxb6603884a
open Go Go.RowKit
set_option linter.unusedVariables false
set_option linter.unusedSimpArgs false

/-- From an empty set: as many changes as the map has keys. -/
theorem coll_size {w : World} {m : Value} {D : DataW Value} {l : List Ch} (hm : Mp w m D) (h : Coll (.map []) D (fun _ => false) l) : l.length = Maps.size D := by
  have h1 := h (fun k => rfl)
  rcases hm with ⟨_, rfl⟩ | ⟨b, n, _, hown⟩
  · have hk : keys l = [] := by
      apply List.eq_nil_iff_forall_not_mem.2
      intro x hx
      have := ((h1.2 x).1 hx).1
      cases this
    have : (keys l).length = 0 := by rw [hk]; rfl
    simpa [keys, Maps.size] using this
  · have hp := (h1.perm hown law9 Try.underlying9 (fun _ => rfl)).length_eq
    obtain ⟨es, hD⟩ := hown.isMap
    rw [hD] at hp ⊢
    simpa [keys, strKeys, Maps.size] using hp
theorem coll_has {D : DataW Value} {l : List Ch} (h : Coll (.map []) D (fun _ => false) l) : ∀ p ∈ paths l, has D p = true := by
  intro p hp
  have h1 := h (fun k => rfl)
  obtain ⟨q, hq, rfl⟩ := List.mem_map.1 hp
  exact ((h1.2 q.1.data.toList).1 (List.mem_map.2 ⟨q, hq, rfl⟩)).1
theorem coll_lt {D : DataW Value} {l : List Ch} (h : Coll (.map []) D (fun _ => false) l) (hs : l.Pairwise Le) : (paths l).Pairwise fun x y => Op.bytesLess x.toList y.toList = true := by
  have h1 := (h (fun k => rfl)).1
  unfold paths
  rw [List.pairwise_map]
  have h2 : l.Pairwise fun x y => x.1.data.toList ≠ y.1.data.toList := List.pairwise_map.1 h1
  rw [List.pairwise_iff_getElem] at hs h2 ⊢
  intro i j hi hj hij
  have ha := hs i j hi hj hij
  have hb := h2 i j hi hj hij
  rw [bytes_toList, bytes_toList, bl_eq, decide_eq_true_eq]
  exact lt_of_le_ne (fun h => ha ((cb_lt _ _).2 h)) hb

theorem below_drewN {B : Nat} {a w : World} (h : Below B a w) (n : Nat) : Below B a (w.drewN n) := ⟨h.os, h.tape, h.output, h.size, h.block⟩
def KeysOk (D : DataW Value) (ks : List ByteArray) : Prop := ∀ k ∈ ks, k.size ≤ maxLen ∧ has D k = true
def Post6 (w : World) (D : DataW Value) (e : Ending) (w' : World) : Prop :=
  ∃ s ks, e = .returned (.tuple #[s, .bool true]) ∧ Rd w' s ks ∧ Below w.heap.size w w' ∧ KeysOk D ks ∧ ks.length ≤ 65536

def Inv6 (w w1 : World) (n : Nat) (i : Value) (wr : World) : Prop := ∃ k : Nat, k ≤ n ∧ i = .int .i64 k ∧ Below w.heap.size w wr ∧ Below w1.heap.size w1 wr

set_option maxRecDepth 100000 in
set_option maxHeartbeats 1000000 in
theorem keys6 (hsort : SortOk) {w : World} {m : Value} {D : DataW Value} (hm : Mv w m D) (sz : Maps.size D ≤ 65536) : Calls Try.prog 6 #[m] w (Post6 w D) := by
  have HD := hide (zz9 hsort (mv_nil w) hm (by simp [Maps.size]) sz)
  have HM := hide hm
  clear hsort hm
  go_enter Try.func6, Try.ntmps6
  go_wp2_with fail
  refine (unhide HD).mono ?_
  rintro e w1 ⟨p, c, l, rfl, hrd, _, hbel, hok, _, hpw, hcoll⟩
  clear HD
  have hsize : l.length = Maps.size D := coll_size (unhide HM).1 hcoll
  have hhas := coll_has hcoll
  have hlt := coll_lt hcoll hpw
  have hks : KeysOk D (paths l) := fun k hk => by
    obtain ⟨q, hq, rfl⟩ := List.mem_map.1 hk
    exact ⟨(hok q hq).1, hhas _ hk⟩
  have hlen : (paths l).length = Maps.size D := by simp [paths, hsize]
  clear hok hpw hcoll hhas hsize
  generalize paths l = ks at *
  obtain ⟨a, cc, rfl, _, hcell⟩ := id hrd
  have HR := hide hrd
  have HB := hide hbel
  have HK := hide hks
  have HC := hide hcell
  have HL := hide hlt
  have hml := ((unhide HM).below hbel).1.len
  rw [← hlen] at hml
  have hn : ks.length ≤ 65536 := by omega
  have HLen := hide hlen
  clear hrd hbel hks hcell hlt hlen sz
  go_wp2_with fail
  clear hml
  go_loopw [21] (fun i wr => Inv6 w w1 ks.length i wr) (fun i _ => ks.length - (intOf i).toNat)
  case atStart => exact ⟨0, Nat.zero_le _, rfl, unhide HB, Below.refl _ _⟩
  case round =>
    obtain ⟨k, hk, rfl, hb, hb1⟩ := hrel
    have HB0 := hide hb
    have HB1 := hide hb1
    by_cases hlt : k < ks.length
    · obtain ⟨b, off, rfl, hbl, hc⟩ := (unhide HC) k hlt
      have hc1 : wr.cell? ⟨b, off + k, none⟩ = some (.string ks[k]) := by rw [hb1.cell (p := ⟨b, off + k, none⟩) hbl]; exact hc
      have hkk := (unhide HK) ks[k] (List.getElem_mem hlt)
      have hlook := ((unhide HM).below hb).1.look_ok hkk.1
      rw [hkk.2] at hlook
      clear hc hb hb1 hkk
      by_cases hk0 : k = 0
      · have hd : decide ((0 : Int) < (k : Int)) = false := by simp [hk0]
        generalize ks[k] = s1 at *
        generalize val D s1 = vv at *
        have hd2 : decide (0 < k) = false := by simp [hk0]
        have hd3 : decide ((k : Int) ≤ 0) = true := by simp [hk0]
        have hd4 : (k : Int) ≤ 0 := by simp [hk0]
        clear hk0
        go_wp2_with fail
        go_quiet (fail)
        go_wp2_with fail
        go_roundw
        case rel => exact ⟨k + 1, by omega, by go_num, below_drewN (unhide HB0) _, below_drewN (unhide HB1) _⟩
        case measure => simp [intOf]; omega
      · obtain ⟨k, rfl⟩ : ∃ k', k = k' + 1 := ⟨k - 1, by omega⟩
        obtain ⟨b', off', e', _, hc'⟩ := (unhide HC) k (by omega)
        cases e'
        have hc2 : wr.cell? ⟨b, off + k, none⟩ = some (.string ks[k]) := by rw [(unhide HB1).cell (p := ⟨b, off + k, none⟩) hbl]; exact hc'
        have hless := List.pairwise_iff_getElem.1 (unhide HL) k (k + 1) (by omega) hlt (by omega)
        clear hc' hk0
        generalize ks[k] = s0 at *
        generalize ks[k + 1] = s1 at *
        generalize val D s1 = vv at *
        go_wp2_with fail
        go_quiet (fail)
        go_wp2_with fail
        go_roundw
        case rel => exact ⟨k + 1 + 1, by omega, by go_num, below_drewN (unhide HB0) _, below_drewN (unhide HB1) _⟩
        case measure => simp [intOf]; omega
    · clear hb hb1
      go_wp2_with fail
      go_ret2
      exact ⟨_, ks, rfl, (unhide HR).below (unhide HB1), unhide HB0, unhide HK, hn⟩
end Go.Proofs.Qxb6603884a
