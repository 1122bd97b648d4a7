/-
  OWN WORK. zzShareholdersForm_b1, zzBoardForm_b1: the two expected texts are the encodings of the two trees.
-/
import Derived.Test.Qxb6601023aEncC
namespace Go.Proofs.Qxb6601023a
open Go Go.RowKit Go.Flow
set_option linter.unusedVariables false
set_option linter.unusedSimpArgs false

def sStr (n : Nat) : Nat := (itoaB n).size + 1 + n
def sList (l : List Nat) : Nat := (itoaB l.length).size + 1 + (l.map sStr).sum
def sNode (a b c : Nat) (l1 l2 : List Nat) (l3 : List (List Nat)) (l4 l5 l6 l7 : List Nat) : Nat :=
  1 + sStr a + 1 + sStr b + sStr c + sList l1 + sList l2 + sList (l3.map sList) + sList l4 + sList l5 + sList l6 + sList l7 + 1
theorem encList_sz (l : List ByteArray) : (encList l).size = sList (l.map ByteArray.size) := by
  unfold encList sList
  rw [encFold_size, ByteArray.size_append, List.map_map, List.length_map]
  have : (l.map fun s => (encStr s).size) = l.map (sStr ∘ ByteArray.size) := List.map_congr_left fun s _ => encStr_size s
  rw [this]
  rfl
theorem nodeB_sz (name : ByteArray) (arr : Bool) (nb lo : ByteArray) (keys opt : List ByteArray) (tog : List (List ByteArray)) (one counts bases tables : List ByteArray) :
    (nodeB name arr nb lo keys opt tog one counts bases tables).size = sNode name.size nb.size lo.size (keys.map ByteArray.size) (opt.map ByteArray.size) (tog.map fun g => g.map ByteArray.size) (one.map ByteArray.size) (counts.map ByteArray.size) (bases.map ByteArray.size) (tables.map ByteArray.size) := by
  have e : (tog.map encList).map ByteArray.size = (tog.map fun g => g.map ByteArray.size).map sList := by
    rw [List.map_map, List.map_map]
    exact List.map_congr_left fun g _ => encList_sz g
  rw [nodeB_size, encList_sz, encList_sz, encList_sz, encList_sz, encList_sz, encList_sz, encList_sz, e, encStr_size, encStr_size, encStr_size]
  rfl
theorem encCount_sz (k o : ByteArray) (n : Nat) : (encCount k o n).size = sStr k.size + sStr o.size + sStr (itoaB n).size := by
  rw [encCount_size, encStr_size, encStr_size, encStr_size]
  rfl

theorem noStrs (w : World) : Strs [] w (.slice none 0 0) [] := Own.nil _ _ _ _
theorem count_ex (k o : ByteArray) (n : Nat) (hn : n < 2 ^ 62) (hs : (encCount k o n).size < 2 ^ 62) (w : World) : Calls Try.prog 22 #[.string k, .string o, .int .i64 n] w fun e w' => ∃ R, R = encCount k o n ∧ e = .returned (.string R) ∧ Below w.heap.size w w' :=
  (encCount22 k o n hn hs w).mono fun e w' ⟨h1, h2⟩ => ⟨_, rfl, h1, h2⟩
theorem node_ex {w : World} (name : ByteArray) (arr : Bool) (nb lo : ByteArray) {sk so s1 sc sb st sg : Value} {keys opt : List ByteArray} {tog : List (List ByteArray)} {one counts bases tables : List ByteArray}
    (hk : Strs [] w sk keys) (ho : Strs [] w so opt) (hg : Groups [] w sg tog) (h1 : Strs [] w s1 one) (hc : Strs [] w sc counts) (hb : Strs [] w sb bases) (ht : Strs [] w st tables)
    (hl : tog.length ≤ 1000) (hs : (nodeB name arr nb lo keys opt tog one counts bases tables).size < 2 ^ 62) :
    Calls Try.prog 29 #[.string name, .bool arr, .string nb, .string lo, sk, so, sg, s1, sc, sb, st] w fun e w' => ∃ R, R = nodeB name arr nb lo keys opt tog one counts bases tables ∧ e = .returned (.string R) ∧ Below w.heap.size w w' :=
  (node29 name arr nb lo hk.row ho.row hg h1.row hc.row hb.row ht.row hl hs).mono fun e w' ⟨h1, h2⟩ => ⟨_, rfl, h1, h2⟩
theorem thr_ex {w : World} (name nb : ByteArray) {sk sb : Value} {keys bases : List ByteArray} (hk : Strs [] w sk keys) (hb : Strs [] w sb bases) (hs : (nodeB name false nb k_no_rule keys [] [] [] [] bases []).size < 2 ^ 62) :
    Calls Try.prog 38 #[.string name, .string nb, sk, sb] w fun e w' => ∃ R, R = nodeB name false nb k_no_rule keys [] [] [] [] bases [] ∧ e = .returned (.string R) ∧ Below w.heap.size w w' :=
  (thr38 name nb hk.row hb.row hs).mono fun e w' ⟨h1, h2⟩ => ⟨_, rfl, h1, h2⟩
theorem two_strs {w : World} {v1 v2 : Value} {l1 l2 : List ByteArray} (h1 : Strs [] w v1 l1) (h2 : Strs [] w v2 l2) : ∀ (i : Nat) (v : Value) (l : List ByteArray), (#[v1, v2] : Array Value).toList[i]? = some v → [l1, l2][i]? = some l → Strs [] w v l := by
  intro i v l e1 e2
  match i, e1, e2 with
  | 0, e1, e2 => simp at e1 e2; subst e1 e2; exact h1
  | 1, e1, e2 => simp at e1 e2; subst e1 e2; exact h2

set_option maxRecDepth 100000 in
set_option maxHeartbeats 4000000 in
theorem shForm10 (w : World) : Calls Try.prog 10 #[] w fun e w' => e = .returned (.string (enc 6 shTree)) ∧ Below w.heap.size w w' := by
  have HBcur := hide (Below.refl w.heap.size w)
  go_enter Try.func10, Try.ntmps10
  go_wp2_with fail
  obtain ⟨V1, hV1⟩ : ∃ V, V = (((w.alloc (.cells #[.string ⟨#[98, 97, 115, 101]⟩, .string ⟨#[98, 111, 117, 110, 100]⟩, .string ⟨#[115, 104, 97, 114, 101]⟩, .string ⟨#[97, 114, 116, 105, 99, 108, 101]⟩] 9)).alloc (.cells #[.string ⟨#[118, 111, 116, 105, 110, 103, 45, 112, 114, 101, 115, 101, 110, 116]⟩] 9)).alloc (.cells #[.string ⟨#[100, 97, 121, 115]⟩, .string ⟨#[97, 114, 116, 105, 99, 108, 101]⟩] 9)) := ⟨_, rfl⟩
  have bV1 : Below w.heap.size w V1 := by subst hV1; exact ((((Below.refl w.heap.size w).alloc (by first | exact Nat.le_refl _ | (simp; done) | (simp; omega)) _).alloc (by first | exact Nat.le_refl _ | (simp; done) | (simp; omega)) _).alloc (by first | exact Nat.le_refl _ | (simp; done) | (simp; omega)) _)
  have F1 : Hid (Strs [] V1 (.slice (some ⟨w.heap.size, 0, none⟩) 4 4) [⟨#[98, 97, 115, 101]⟩, ⟨#[98, 111, 117, 110, 100]⟩, ⟨#[115, 104, 97, 114, 101]⟩, ⟨#[97, 114, 116, 105, 99, 108, 101]⟩]) := hide (by subst hV1; exact strsLit (by repeat (first | exact blk_top _ _ (by simp; done) | refine blk_under _ (by first | (simp; done) | (simp; omega)) ?_)) (by simp) rfl (by decide) rfl rfl)
  have F2 : Hid (Strs [] V1 (.slice (some ⟨w.heap.size + 1, 0, none⟩) 1 1) [⟨#[118, 111, 116, 105, 110, 103, 45, 112, 114, 101, 115, 101, 110, 116]⟩]) := hide (by subst hV1; exact strsLit (by repeat (first | exact blk_top _ _ (by simp; done) | refine blk_under _ (by first | (simp; done) | (simp; omega)) ?_)) (by simp) rfl (by decide) rfl rfl)
  have F3 : Hid (Strs [] V1 (.slice (some ⟨w.heap.size + 2, 0, none⟩) 2 2) [⟨#[100, 97, 121, 115]⟩, ⟨#[97, 114, 116, 105, 99, 108, 101]⟩]) := hide (by subst hV1; exact strsLit (by repeat (first | exact blk_top _ _ (by simp; done) | refine blk_under _ (by first | (simp; done) | (simp; omega)) ?_)) (by simp) rfl (by decide) rfl rfl)
  replace HBcur := hide ((unhide HBcur).trans (bV1.mono (unhide HBcur).size))
  rw [← hV1]
  clear hV1 bV1
  refine (count_ex ⟨#[100, 97, 121, 115]⟩ ⟨#[100, 97, 121, 115]⟩ 0 (by decide) (by rw [encCount_sz]; decide +kernel) _).mono ?_
  rintro e V2 ⟨R1, hR1, rfl, bV2⟩
  have z1 : R1.size = 15 := by rw [hR1, encCount_sz]; decide +kernel
  replace F1 := hide ((unhide F1).keep (Keep.of_below bV2))
  replace F2 := hide ((unhide F2).keep (Keep.of_below bV2))
  replace F3 := hide ((unhide F3).keep (Keep.of_below bV2))
  replace HBcur := hide ((unhide HBcur).trans (bV2.mono (unhide HBcur).size))
  replace hR1 := hide hR1
  clear bV2
  go_wp2_with fail
  obtain ⟨V3, hV3⟩ : ∃ V, V = (V2.alloc (.cells #[.string R1] 9)) := ⟨_, rfl⟩
  have bV3 : Below V2.heap.size V2 V3 := by subst hV3; exact ((Below.refl V2.heap.size V2).alloc (by first | exact Nat.le_refl _ | (simp; done) | (simp; omega)) _)
  replace F1 := hide ((unhide F1).keep (Keep.of_below bV3))
  replace F2 := hide ((unhide F2).keep (Keep.of_below bV3))
  replace F3 := hide ((unhide F3).keep (Keep.of_below bV3))
  have F4 : Hid (Strs [] V3 (.slice (some ⟨V2.heap.size, 0, none⟩) 1 1) [R1]) := hide (by subst hV3; exact strsLit (by repeat (first | exact blk_top _ _ (by simp; done) | refine blk_under _ (by first | (simp; done) | (simp; omega)) ?_)) (by simp) rfl (by decide) rfl rfl)
  replace HBcur := hide ((unhide HBcur).trans (bV3.mono (unhide HBcur).size))
  rw [← hV3]
  clear hV3 bV3
  refine (node_ex ⟨#[99, 104, 97, 110, 103, 101]⟩ false ⟨#[]⟩ ⟨#[110, 111, 45, 114, 117, 108, 101]⟩ (unhide F3) (noStrs _) (noGroups _ _) (noStrs _) (unhide F4) (noStrs _) (noStrs _) (by decide) (by rw [nodeB_sz]; simp only [List.map_cons, List.map_nil, z1]; decide +kernel)).mono ?_
  rintro e V4 ⟨R2, hR2, rfl, bV4⟩
  have z2 : R2.size = 69 := by rw [hR2, nodeB_sz]; simp only [List.map_cons, List.map_nil, z1]; decide +kernel
  replace F1 := hide ((unhide F1).keep (Keep.of_below bV4))
  replace F2 := hide ((unhide F2).keep (Keep.of_below bV4))
  replace F3 := hide ((unhide F3).keep (Keep.of_below bV4))
  replace F4 := hide ((unhide F4).keep (Keep.of_below bV4))
  replace HBcur := hide ((unhide HBcur).trans (bV4.mono (unhide HBcur).size))
  replace hR2 := hide hR2
  clear bV4
  go_wp2_with fail
  obtain ⟨V5, hV5⟩ : ∃ V, V = (V4.alloc (.cells #[.string ⟨#[97, 110, 110, 117, 97, 108, 95, 100, 97, 121, 115]⟩, .string ⟨#[101, 120, 116, 114, 97, 111, 114, 100, 105, 110, 97, 114, 121, 95, 100, 97, 121, 115]⟩, .string ⟨#[100, 97, 121, 95, 99, 111, 117, 110, 116]⟩, .string ⟨#[97, 114, 116, 105, 99, 108, 101]⟩] 9)) := ⟨_, rfl⟩
  have bV5 : Below V4.heap.size V4 V5 := by subst hV5; exact ((Below.refl V4.heap.size V4).alloc (by first | exact Nat.le_refl _ | (simp; done) | (simp; omega)) _)
  replace F1 := hide ((unhide F1).keep (Keep.of_below bV5))
  replace F2 := hide ((unhide F2).keep (Keep.of_below bV5))
  replace F3 := hide ((unhide F3).keep (Keep.of_below bV5))
  replace F4 := hide ((unhide F4).keep (Keep.of_below bV5))
  have F5 : Hid (Strs [] V5 (.slice (some ⟨V4.heap.size, 0, none⟩) 4 4) [⟨#[97, 110, 110, 117, 97, 108, 95, 100, 97, 121, 115]⟩, ⟨#[101, 120, 116, 114, 97, 111, 114, 100, 105, 110, 97, 114, 121, 95, 100, 97, 121, 115]⟩, ⟨#[100, 97, 121, 95, 99, 111, 117, 110, 116]⟩, ⟨#[97, 114, 116, 105, 99, 108, 101]⟩]) := hide (by subst hV5; exact strsLit (by repeat (first | exact blk_top _ _ (by simp; done) | refine blk_under _ (by first | (simp; done) | (simp; omega)) ?_)) (by simp) rfl (by decide) rfl rfl)
  replace HBcur := hide ((unhide HBcur).trans (bV5.mono (unhide HBcur).size))
  rw [← hV5]
  clear hV5 bV5
  refine (count_ex ⟨#[97, 110, 110, 117, 97, 108, 95, 100, 97, 121, 115]⟩ ⟨#[100, 97, 121, 115]⟩ 0 (by decide) (by rw [encCount_sz]; decide +kernel) _).mono ?_
  rintro e V6 ⟨R3, hR3, rfl, bV6⟩
  have z3 : R3.size = 23 := by rw [hR3, encCount_sz]; decide +kernel
  replace F1 := hide ((unhide F1).keep (Keep.of_below bV6))
  replace F2 := hide ((unhide F2).keep (Keep.of_below bV6))
  replace F3 := hide ((unhide F3).keep (Keep.of_below bV6))
  replace F4 := hide ((unhide F4).keep (Keep.of_below bV6))
  replace F5 := hide ((unhide F5).keep (Keep.of_below bV6))
  replace HBcur := hide ((unhide HBcur).trans (bV6.mono (unhide HBcur).size))
  replace hR3 := hide hR3
  clear bV6
  go_wp2_with fail
  refine (count_ex ⟨#[101, 120, 116, 114, 97, 111, 114, 100, 105, 110, 97, 114, 121, 95, 100, 97, 121, 115]⟩ ⟨#[100, 97, 121, 115]⟩ 0 (by decide) (by rw [encCount_sz]; decide +kernel) _).mono ?_
  rintro e V7 ⟨R4, hR4, rfl, bV7⟩
  have z4 : R4.size = 30 := by rw [hR4, encCount_sz]; decide +kernel
  replace F1 := hide ((unhide F1).keep (Keep.of_below bV7))
  replace F2 := hide ((unhide F2).keep (Keep.of_below bV7))
  replace F3 := hide ((unhide F3).keep (Keep.of_below bV7))
  replace F4 := hide ((unhide F4).keep (Keep.of_below bV7))
  replace F5 := hide ((unhide F5).keep (Keep.of_below bV7))
  replace HBcur := hide ((unhide HBcur).trans (bV7.mono (unhide HBcur).size))
  replace hR4 := hide hR4
  clear bV7
  go_wp2_with fail
  obtain ⟨V8, hV8⟩ : ∃ V, V = ((V7.alloc (.cells #[.string R3, .string R4] 9)).alloc (.cells #[.string R2] 9)) := ⟨_, rfl⟩
  have bV8 : Below V7.heap.size V7 V8 := by subst hV8; exact (((Below.refl V7.heap.size V7).alloc (by first | exact Nat.le_refl _ | (simp; done) | (simp; omega)) _).alloc (by first | exact Nat.le_refl _ | (simp; done) | (simp; omega)) _)
  replace F1 := hide ((unhide F1).keep (Keep.of_below bV8))
  replace F2 := hide ((unhide F2).keep (Keep.of_below bV8))
  replace F3 := hide ((unhide F3).keep (Keep.of_below bV8))
  replace F4 := hide ((unhide F4).keep (Keep.of_below bV8))
  replace F5 := hide ((unhide F5).keep (Keep.of_below bV8))
  have F6 : Hid (Strs [] V8 (.slice (some ⟨V7.heap.size, 0, none⟩) 2 2) [R3, R4]) := hide (by subst hV8; exact strsLit (by repeat (first | exact blk_top _ _ (by simp; done) | refine blk_under _ (by first | (simp; done) | (simp; omega)) ?_)) (by simp) rfl (by decide) rfl rfl)
  have F7 : Hid (Strs [] V8 (.slice (some ⟨V7.heap.size + 1, 0, none⟩) 1 1) [R2]) := hide (by subst hV8; exact strsLit (by repeat (first | exact blk_top _ _ (by simp; done) | refine blk_under _ (by first | (simp; done) | (simp; omega)) ?_)) (by simp) rfl (by decide) rfl rfl)
  replace HBcur := hide ((unhide HBcur).trans (bV8.mono (unhide HBcur).size))
  rw [← hV8]
  clear hV8 bV8
  refine (node_ex ⟨#[110, 111, 116, 105, 99, 101]⟩ false ⟨#[]⟩ ⟨#[110, 111, 45, 114, 117, 108, 101]⟩ (unhide F5) (noStrs _) (noGroups _ _) (noStrs _) (unhide F6) (noStrs _) (unhide F7) (by decide) (by rw [nodeB_sz]; simp only [List.map_cons, List.map_nil, z2, z3, z4]; decide +kernel)).mono ?_
  rintro e V9 ⟨R5, hR5, rfl, bV9⟩
  have z5 : R5.size = 222 := by rw [hR5, nodeB_sz]; simp only [List.map_cons, List.map_nil, z2, z3, z4]; decide +kernel
  replace F1 := hide ((unhide F1).keep (Keep.of_below bV9))
  replace F2 := hide ((unhide F2).keep (Keep.of_below bV9))
  replace F3 := hide ((unhide F3).keep (Keep.of_below bV9))
  replace F4 := hide ((unhide F4).keep (Keep.of_below bV9))
  replace F5 := hide ((unhide F5).keep (Keep.of_below bV9))
  replace F6 := hide ((unhide F6).keep (Keep.of_below bV9))
  replace F7 := hide ((unhide F7).keep (Keep.of_below bV9))
  replace HBcur := hide ((unhide HBcur).trans (bV9.mono (unhide HBcur).size))
  replace hR5 := hide hR5
  clear bV9
  go_wp2_with fail
  obtain ⟨V10, hV10⟩ : ∃ V, V = (V9.alloc (.cells #[.string ⟨#[110, 97, 109, 101]⟩] 9)) := ⟨_, rfl⟩
  have bV10 : Below V9.heap.size V9 V10 := by subst hV10; exact ((Below.refl V9.heap.size V9).alloc (by first | exact Nat.le_refl _ | (simp; done) | (simp; omega)) _)
  replace F1 := hide ((unhide F1).keep (Keep.of_below bV10))
  replace F2 := hide ((unhide F2).keep (Keep.of_below bV10))
  replace F3 := hide ((unhide F3).keep (Keep.of_below bV10))
  replace F4 := hide ((unhide F4).keep (Keep.of_below bV10))
  replace F5 := hide ((unhide F5).keep (Keep.of_below bV10))
  replace F6 := hide ((unhide F6).keep (Keep.of_below bV10))
  replace F7 := hide ((unhide F7).keep (Keep.of_below bV10))
  have F8 : Hid (Strs [] V10 (.slice (some ⟨V9.heap.size, 0, none⟩) 1 1) [⟨#[110, 97, 109, 101]⟩]) := hide (by subst hV10; exact strsLit (by repeat (first | exact blk_top _ _ (by simp; done) | refine blk_under _ (by first | (simp; done) | (simp; omega)) ?_)) (by simp) rfl (by decide) rfl rfl)
  replace HBcur := hide ((unhide HBcur).trans (bV10.mono (unhide HBcur).size))
  rw [← hV10]
  clear hV10 bV10
  refine (thr_ex ⟨#[112, 97, 115, 115]⟩ ⟨#[]⟩ (unhide F1) (unhide F2) (by rw [nodeB_sz]; decide +kernel)).mono ?_
  rintro e V11 ⟨R6, hR6, rfl, bV11⟩
  have z6 : R6.size = 80 := by rw [hR6, nodeB_sz]; decide +kernel
  replace F1 := hide ((unhide F1).keep (Keep.of_below bV11))
  replace F2 := hide ((unhide F2).keep (Keep.of_below bV11))
  replace F3 := hide ((unhide F3).keep (Keep.of_below bV11))
  replace F4 := hide ((unhide F4).keep (Keep.of_below bV11))
  replace F5 := hide ((unhide F5).keep (Keep.of_below bV11))
  replace F6 := hide ((unhide F6).keep (Keep.of_below bV11))
  replace F7 := hide ((unhide F7).keep (Keep.of_below bV11))
  replace F8 := hide ((unhide F8).keep (Keep.of_below bV11))
  replace HBcur := hide ((unhide HBcur).trans (bV11.mono (unhide HBcur).size))
  replace hR6 := hide hR6
  clear bV11
  go_wp2_with fail
  refine (node_ex ⟨#[101, 120, 116, 114, 97]⟩ true ⟨#[]⟩ ⟨#[110, 111, 45, 114, 117, 108, 101]⟩ (unhide F1) (noStrs _) (noGroups _ _) (noStrs _) (noStrs _) (unhide F2) (noStrs _) (by decide) (by rw [nodeB_sz]; decide +kernel)).mono ?_
  rintro e V12 ⟨R7, hR7, rfl, bV12⟩
  have z7 : R7.size = 81 := by rw [hR7, nodeB_sz]; decide +kernel
  replace F1 := hide ((unhide F1).keep (Keep.of_below bV12))
  replace F2 := hide ((unhide F2).keep (Keep.of_below bV12))
  replace F3 := hide ((unhide F3).keep (Keep.of_below bV12))
  replace F4 := hide ((unhide F4).keep (Keep.of_below bV12))
  replace F5 := hide ((unhide F5).keep (Keep.of_below bV12))
  replace F6 := hide ((unhide F6).keep (Keep.of_below bV12))
  replace F7 := hide ((unhide F7).keep (Keep.of_below bV12))
  replace F8 := hide ((unhide F8).keep (Keep.of_below bV12))
  replace HBcur := hide ((unhide HBcur).trans (bV12.mono (unhide HBcur).size))
  replace hR7 := hide hR7
  clear bV12
  go_wp2_with fail
  obtain ⟨V13, hV13⟩ : ∃ V, V = (V12.alloc (.cells #[.string R6, .string R7] 9)) := ⟨_, rfl⟩
  have bV13 : Below V12.heap.size V12 V13 := by subst hV13; exact ((Below.refl V12.heap.size V12).alloc (by first | exact Nat.le_refl _ | (simp; done) | (simp; omega)) _)
  replace F1 := hide ((unhide F1).keep (Keep.of_below bV13))
  replace F2 := hide ((unhide F2).keep (Keep.of_below bV13))
  replace F3 := hide ((unhide F3).keep (Keep.of_below bV13))
  replace F4 := hide ((unhide F4).keep (Keep.of_below bV13))
  replace F5 := hide ((unhide F5).keep (Keep.of_below bV13))
  replace F6 := hide ((unhide F6).keep (Keep.of_below bV13))
  replace F7 := hide ((unhide F7).keep (Keep.of_below bV13))
  replace F8 := hide ((unhide F8).keep (Keep.of_below bV13))
  have F9 : Hid (Strs [] V13 (.slice (some ⟨V12.heap.size, 0, none⟩) 2 2) [R6, R7]) := hide (by subst hV13; exact strsLit (by repeat (first | exact blk_top _ _ (by simp; done) | refine blk_under _ (by first | (simp; done) | (simp; omega)) ?_)) (by simp) rfl (by decide) rfl rfl)
  replace HBcur := hide ((unhide HBcur).trans (bV13.mono (unhide HBcur).size))
  rw [← hV13]
  clear hV13 bV13
  refine (node_ex ⟨#[107, 105, 110, 100]⟩ true ⟨#[]⟩ ⟨#[110, 111, 45, 114, 117, 108, 101]⟩ (unhide F8) (noStrs _) (noGroups _ _) (noStrs _) (noStrs _) (noStrs _) (unhide F9) (by decide) (by rw [nodeB_sz]; simp only [List.map_cons, List.map_nil, z6, z7]; decide +kernel)).mono ?_
  rintro e V14 ⟨R8, hR8, rfl, bV14⟩
  have z8 : R8.size = 207 := by rw [hR8, nodeB_sz]; simp only [List.map_cons, List.map_nil, z6, z7]; decide +kernel
  replace F1 := hide ((unhide F1).keep (Keep.of_below bV14))
  replace F2 := hide ((unhide F2).keep (Keep.of_below bV14))
  replace F3 := hide ((unhide F3).keep (Keep.of_below bV14))
  replace F4 := hide ((unhide F4).keep (Keep.of_below bV14))
  replace F5 := hide ((unhide F5).keep (Keep.of_below bV14))
  replace F6 := hide ((unhide F6).keep (Keep.of_below bV14))
  replace F7 := hide ((unhide F7).keep (Keep.of_below bV14))
  replace F8 := hide ((unhide F8).keep (Keep.of_below bV14))
  replace F9 := hide ((unhide F9).keep (Keep.of_below bV14))
  replace HBcur := hide ((unhide HBcur).trans (bV14.mono (unhide HBcur).size))
  replace hR8 := hide hR8
  clear bV14
  go_wp2_with fail
  refine (thr_ex ⟨#[113, 117, 111, 114, 117, 109]⟩ ⟨#[]⟩ (unhide F1) (unhide F2) (by rw [nodeB_sz]; decide +kernel)).mono ?_
  rintro e V15 ⟨R9, hR9, rfl, bV15⟩
  have z9 : R9.size = 82 := by rw [hR9, nodeB_sz]; decide +kernel
  replace F1 := hide ((unhide F1).keep (Keep.of_below bV15))
  replace F2 := hide ((unhide F2).keep (Keep.of_below bV15))
  replace F3 := hide ((unhide F3).keep (Keep.of_below bV15))
  replace F4 := hide ((unhide F4).keep (Keep.of_below bV15))
  replace F5 := hide ((unhide F5).keep (Keep.of_below bV15))
  replace F6 := hide ((unhide F6).keep (Keep.of_below bV15))
  replace F7 := hide ((unhide F7).keep (Keep.of_below bV15))
  replace F8 := hide ((unhide F8).keep (Keep.of_below bV15))
  replace F9 := hide ((unhide F9).keep (Keep.of_below bV15))
  replace HBcur := hide ((unhide HBcur).trans (bV15.mono (unhide HBcur).size))
  replace hR9 := hide hR9
  clear bV15
  go_wp2_with fail
  refine (thr_ex ⟨#[112, 97, 115, 115]⟩ ⟨#[101, 118, 101, 114, 121, 32, 114, 117, 108, 101, 98, 111, 111, 107]⟩ (unhide F1) (unhide F2) (by rw [nodeB_sz]; decide +kernel)).mono ?_
  rintro e V16 ⟨R10, hR10, rfl, bV16⟩
  have z10 : R10.size = 95 := by rw [hR10, nodeB_sz]; decide +kernel
  replace F1 := hide ((unhide F1).keep (Keep.of_below bV16))
  replace F2 := hide ((unhide F2).keep (Keep.of_below bV16))
  replace F3 := hide ((unhide F3).keep (Keep.of_below bV16))
  replace F4 := hide ((unhide F4).keep (Keep.of_below bV16))
  replace F5 := hide ((unhide F5).keep (Keep.of_below bV16))
  replace F6 := hide ((unhide F6).keep (Keep.of_below bV16))
  replace F7 := hide ((unhide F7).keep (Keep.of_below bV16))
  replace F8 := hide ((unhide F8).keep (Keep.of_below bV16))
  replace F9 := hide ((unhide F9).keep (Keep.of_below bV16))
  replace HBcur := hide ((unhide HBcur).trans (bV16.mono (unhide HBcur).size))
  replace hR10 := hide hR10
  clear bV16
  go_wp2_with fail
  obtain ⟨V17, hV17⟩ : ∃ V, V = (V16.alloc (.cells #[.string ⟨#[97, 114, 116, 105, 99, 108, 101]⟩] 9)) := ⟨_, rfl⟩
  have bV17 : Below V16.heap.size V16 V17 := by subst hV17; exact ((Below.refl V16.heap.size V16).alloc (by first | exact Nat.le_refl _ | (simp; done) | (simp; omega)) _)
  replace F1 := hide ((unhide F1).keep (Keep.of_below bV17))
  replace F2 := hide ((unhide F2).keep (Keep.of_below bV17))
  replace F3 := hide ((unhide F3).keep (Keep.of_below bV17))
  replace F4 := hide ((unhide F4).keep (Keep.of_below bV17))
  replace F5 := hide ((unhide F5).keep (Keep.of_below bV17))
  replace F6 := hide ((unhide F6).keep (Keep.of_below bV17))
  replace F7 := hide ((unhide F7).keep (Keep.of_below bV17))
  replace F8 := hide ((unhide F8).keep (Keep.of_below bV17))
  replace F9 := hide ((unhide F9).keep (Keep.of_below bV17))
  have F10 : Hid (Strs [] V17 (.slice (some ⟨V16.heap.size, 0, none⟩) 1 1) [⟨#[97, 114, 116, 105, 99, 108, 101]⟩]) := hide (by subst hV17; exact strsLit (by repeat (first | exact blk_top _ _ (by simp; done) | refine blk_under _ (by first | (simp; done) | (simp; omega)) ?_)) (by simp) rfl (by decide) rfl rfl)
  replace HBcur := hide ((unhide HBcur).trans (bV17.mono (unhide HBcur).size))
  rw [← hV17]
  clear hV17 bV17
  refine (node_ex ⟨#[114, 101, 99, 117, 115, 97, 108]⟩ false ⟨#[]⟩ ⟨#[114, 101, 102, 117, 115, 101]⟩ (unhide F10) (noStrs _) (noGroups _ _) (noStrs _) (noStrs _) (noStrs _) (noStrs _) (by decide) (by rw [nodeB_sz]; decide +kernel)).mono ?_
  rintro e V18 ⟨R11, hR11, rfl, bV18⟩
  have z11 : R11.size = 45 := by rw [hR11, nodeB_sz]; decide +kernel
  replace F1 := hide ((unhide F1).keep (Keep.of_below bV18))
  replace F2 := hide ((unhide F2).keep (Keep.of_below bV18))
  replace F3 := hide ((unhide F3).keep (Keep.of_below bV18))
  replace F4 := hide ((unhide F4).keep (Keep.of_below bV18))
  replace F5 := hide ((unhide F5).keep (Keep.of_below bV18))
  replace F6 := hide ((unhide F6).keep (Keep.of_below bV18))
  replace F7 := hide ((unhide F7).keep (Keep.of_below bV18))
  replace F8 := hide ((unhide F8).keep (Keep.of_below bV18))
  replace F9 := hide ((unhide F9).keep (Keep.of_below bV18))
  replace F10 := hide ((unhide F10).keep (Keep.of_below bV18))
  replace HBcur := hide ((unhide HBcur).trans (bV18.mono (unhide HBcur).size))
  replace hR11 := hide hR11
  clear bV18
  go_wp2_with fail
  obtain ⟨V19, hV19⟩ : ∃ V, V = (V18.alloc (.cells #[.string ⟨#[102, 105, 114, 115, 116, 95, 118, 111, 116, 101, 95, 99, 111, 117, 110, 116, 115]⟩, .string ⟨#[102, 105, 114, 115, 116, 95, 118, 111, 116, 101, 95, 97, 114, 116, 105, 99, 108, 101]⟩, .string ⟨#[117, 110, 99, 97, 115, 116]⟩, .string ⟨#[117, 110, 99, 97, 115, 116, 95, 97, 114, 116, 105, 99, 108, 101]⟩, .string ⟨#[116, 114, 101, 97, 115, 117, 114, 121, 95, 97, 114, 116, 105, 99, 108, 101]⟩] 9)) := ⟨_, rfl⟩
  have bV19 : Below V18.heap.size V18 V19 := by subst hV19; exact ((Below.refl V18.heap.size V18).alloc (by first | exact Nat.le_refl _ | (simp; done) | (simp; omega)) _)
  replace F1 := hide ((unhide F1).keep (Keep.of_below bV19))
  replace F2 := hide ((unhide F2).keep (Keep.of_below bV19))
  replace F3 := hide ((unhide F3).keep (Keep.of_below bV19))
  replace F4 := hide ((unhide F4).keep (Keep.of_below bV19))
  replace F5 := hide ((unhide F5).keep (Keep.of_below bV19))
  replace F6 := hide ((unhide F6).keep (Keep.of_below bV19))
  replace F7 := hide ((unhide F7).keep (Keep.of_below bV19))
  replace F8 := hide ((unhide F8).keep (Keep.of_below bV19))
  replace F9 := hide ((unhide F9).keep (Keep.of_below bV19))
  replace F10 := hide ((unhide F10).keep (Keep.of_below bV19))
  have F11 : Hid (Strs [] V19 (.slice (some ⟨V18.heap.size, 0, none⟩) 5 5) [⟨#[102, 105, 114, 115, 116, 95, 118, 111, 116, 101, 95, 99, 111, 117, 110, 116, 115]⟩, ⟨#[102, 105, 114, 115, 116, 95, 118, 111, 116, 101, 95, 97, 114, 116, 105, 99, 108, 101]⟩, ⟨#[117, 110, 99, 97, 115, 116]⟩, ⟨#[117, 110, 99, 97, 115, 116, 95, 97, 114, 116, 105, 99, 108, 101]⟩, ⟨#[116, 114, 101, 97, 115, 117, 114, 121, 95, 97, 114, 116, 105, 99, 108, 101]⟩]) := hide (by subst hV19; exact strsLit (by repeat (first | exact blk_top _ _ (by simp; done) | refine blk_under _ (by first | (simp; done) | (simp; omega)) ?_)) (by simp) rfl (by decide) rfl rfl)
  replace HBcur := hide ((unhide HBcur).trans (bV19.mono (unhide HBcur).size))
  rw [← hV19]
  clear hV19 bV19
  refine (node_ex ⟨#[98, 97, 108, 108, 111, 116]⟩ false ⟨#[]⟩ ⟨#[114, 101, 102, 117, 115, 101]⟩ (unhide F11) (noStrs _) (noGroups _ _) (noStrs _) (noStrs _) (noStrs _) (noStrs _) (by decide) (by rw [nodeB_sz]; decide +kernel)).mono ?_
  rintro e V20 ⟨R12, hR12, rfl, bV20⟩
  have z12 : R12.size = 120 := by rw [hR12, nodeB_sz]; decide +kernel
  replace F1 := hide ((unhide F1).keep (Keep.of_below bV20))
  replace F2 := hide ((unhide F2).keep (Keep.of_below bV20))
  replace F3 := hide ((unhide F3).keep (Keep.of_below bV20))
  replace F4 := hide ((unhide F4).keep (Keep.of_below bV20))
  replace F5 := hide ((unhide F5).keep (Keep.of_below bV20))
  replace F6 := hide ((unhide F6).keep (Keep.of_below bV20))
  replace F7 := hide ((unhide F7).keep (Keep.of_below bV20))
  replace F8 := hide ((unhide F8).keep (Keep.of_below bV20))
  replace F9 := hide ((unhide F9).keep (Keep.of_below bV20))
  replace F10 := hide ((unhide F10).keep (Keep.of_below bV20))
  replace F11 := hide ((unhide F11).keep (Keep.of_below bV20))
  replace HBcur := hide ((unhide HBcur).trans (bV20.mono (unhide HBcur).size))
  replace hR12 := hide hR12
  clear bV20
  go_wp2_with fail
  refine (thr_ex ⟨#[117, 110, 108, 105, 115, 116, 101, 100]⟩ ⟨#[]⟩ (unhide F1) (unhide F2) (by rw [nodeB_sz]; decide +kernel)).mono ?_
  rintro e V21 ⟨R13, hR13, rfl, bV21⟩
  have z13 : R13.size = 84 := by rw [hR13, nodeB_sz]; decide +kernel
  replace F1 := hide ((unhide F1).keep (Keep.of_below bV21))
  replace F2 := hide ((unhide F2).keep (Keep.of_below bV21))
  replace F3 := hide ((unhide F3).keep (Keep.of_below bV21))
  replace F4 := hide ((unhide F4).keep (Keep.of_below bV21))
  replace F5 := hide ((unhide F5).keep (Keep.of_below bV21))
  replace F6 := hide ((unhide F6).keep (Keep.of_below bV21))
  replace F7 := hide ((unhide F7).keep (Keep.of_below bV21))
  replace F8 := hide ((unhide F8).keep (Keep.of_below bV21))
  replace F9 := hide ((unhide F9).keep (Keep.of_below bV21))
  replace F10 := hide ((unhide F10).keep (Keep.of_below bV21))
  replace F11 := hide ((unhide F11).keep (Keep.of_below bV21))
  replace HBcur := hide ((unhide HBcur).trans (bV21.mono (unhide HBcur).size))
  replace hR13 := hide hR13
  clear bV21
  go_wp2_with fail
  obtain ⟨V22, hV22⟩ : ∃ V, V = (V21.alloc (.cells #[.string ⟨#[114, 101, 118, 111, 99, 97, 98, 108, 101, 95, 97, 114, 116, 105, 99, 108, 101]⟩] 9)) := ⟨_, rfl⟩
  have bV22 : Below V21.heap.size V21 V22 := by subst hV22; exact ((Below.refl V21.heap.size V21).alloc (by first | exact Nat.le_refl _ | (simp; done) | (simp; omega)) _)
  replace F1 := hide ((unhide F1).keep (Keep.of_below bV22))
  replace F2 := hide ((unhide F2).keep (Keep.of_below bV22))
  replace F3 := hide ((unhide F3).keep (Keep.of_below bV22))
  replace F4 := hide ((unhide F4).keep (Keep.of_below bV22))
  replace F5 := hide ((unhide F5).keep (Keep.of_below bV22))
  replace F6 := hide ((unhide F6).keep (Keep.of_below bV22))
  replace F7 := hide ((unhide F7).keep (Keep.of_below bV22))
  replace F8 := hide ((unhide F8).keep (Keep.of_below bV22))
  replace F9 := hide ((unhide F9).keep (Keep.of_below bV22))
  replace F10 := hide ((unhide F10).keep (Keep.of_below bV22))
  replace F11 := hide ((unhide F11).keep (Keep.of_below bV22))
  have F12 : Hid (Strs [] V22 (.slice (some ⟨V21.heap.size, 0, none⟩) 1 1) [⟨#[114, 101, 118, 111, 99, 97, 98, 108, 101, 95, 97, 114, 116, 105, 99, 108, 101]⟩]) := hide (by subst hV22; exact strsLit (by repeat (first | exact blk_top _ _ (by simp; done) | refine blk_under _ (by first | (simp; done) | (simp; omega)) ?_)) (by simp) rfl (by decide) rfl rfl)
  replace HBcur := hide ((unhide HBcur).trans (bV22.mono (unhide HBcur).size))
  rw [← hV22]
  clear hV22 bV22
  refine (node_ex ⟨#[99, 111, 110, 115, 101, 113, 117, 101, 110, 99, 101]⟩ false ⟨#[]⟩ ⟨#[114, 101, 102, 117, 115, 101]⟩ (unhide F12) (noStrs _) (noGroups _ _) (noStrs _) (noStrs _) (noStrs _) (noStrs _) (by decide) (by rw [nodeB_sz]; decide +kernel)).mono ?_
  rintro e V23 ⟨R14, hR14, rfl, bV23⟩
  have z14 : R14.size = 61 := by rw [hR14, nodeB_sz]; decide +kernel
  replace F1 := hide ((unhide F1).keep (Keep.of_below bV23))
  replace F2 := hide ((unhide F2).keep (Keep.of_below bV23))
  replace F3 := hide ((unhide F3).keep (Keep.of_below bV23))
  replace F4 := hide ((unhide F4).keep (Keep.of_below bV23))
  replace F5 := hide ((unhide F5).keep (Keep.of_below bV23))
  replace F6 := hide ((unhide F6).keep (Keep.of_below bV23))
  replace F7 := hide ((unhide F7).keep (Keep.of_below bV23))
  replace F8 := hide ((unhide F8).keep (Keep.of_below bV23))
  replace F9 := hide ((unhide F9).keep (Keep.of_below bV23))
  replace F10 := hide ((unhide F10).keep (Keep.of_below bV23))
  replace F11 := hide ((unhide F11).keep (Keep.of_below bV23))
  replace F12 := hide ((unhide F12).keep (Keep.of_below bV23))
  replace HBcur := hide ((unhide HBcur).trans (bV23.mono (unhide HBcur).size))
  replace hR14 := hide hR14
  clear bV23
  go_wp2_with fail
  obtain ⟨V24, hV24⟩ : ∃ V, V = ((V23.alloc (.cells #[.string R9, .string R10, .string R11, .string R12, .string R5, .string R13, .string R14, .string R8] 9)).alloc (.cells #[.string ⟨#[102, 111, 114, 109, 97, 116]⟩, .string ⟨#[98, 111, 100, 121]⟩, .string ⟨#[116, 105, 116, 108, 101]⟩, .string ⟨#[115, 104, 97, 114, 101, 104, 111, 108, 100, 101, 114, 115, 95, 109, 101, 101, 116, 105, 110, 103]⟩] 9)) := ⟨_, rfl⟩
  have bV24 : Below V23.heap.size V23 V24 := by subst hV24; exact (((Below.refl V23.heap.size V23).alloc (by first | exact Nat.le_refl _ | (simp; done) | (simp; omega)) _).alloc (by first | exact Nat.le_refl _ | (simp; done) | (simp; omega)) _)
  replace F1 := hide ((unhide F1).keep (Keep.of_below bV24))
  replace F2 := hide ((unhide F2).keep (Keep.of_below bV24))
  replace F3 := hide ((unhide F3).keep (Keep.of_below bV24))
  replace F4 := hide ((unhide F4).keep (Keep.of_below bV24))
  replace F5 := hide ((unhide F5).keep (Keep.of_below bV24))
  replace F6 := hide ((unhide F6).keep (Keep.of_below bV24))
  replace F7 := hide ((unhide F7).keep (Keep.of_below bV24))
  replace F8 := hide ((unhide F8).keep (Keep.of_below bV24))
  replace F9 := hide ((unhide F9).keep (Keep.of_below bV24))
  replace F10 := hide ((unhide F10).keep (Keep.of_below bV24))
  replace F11 := hide ((unhide F11).keep (Keep.of_below bV24))
  replace F12 := hide ((unhide F12).keep (Keep.of_below bV24))
  have F13 : Hid (Strs [] V24 (.slice (some ⟨V23.heap.size, 0, none⟩) 8 8) [R9, R10, R11, R12, R5, R13, R14, R8]) := hide (by subst hV24; exact strsLit (by repeat (first | exact blk_top _ _ (by simp; done) | refine blk_under _ (by first | (simp; done) | (simp; omega)) ?_)) (by simp) rfl (by decide) rfl rfl)
  have F14 : Hid (Strs [] V24 (.slice (some ⟨V23.heap.size + 1, 0, none⟩) 4 4) [⟨#[102, 111, 114, 109, 97, 116]⟩, ⟨#[98, 111, 100, 121]⟩, ⟨#[116, 105, 116, 108, 101]⟩, ⟨#[115, 104, 97, 114, 101, 104, 111, 108, 100, 101, 114, 115, 95, 109, 101, 101, 116, 105, 110, 103]⟩]) := hide (by subst hV24; exact strsLit (by repeat (first | exact blk_top _ _ (by simp; done) | refine blk_under _ (by first | (simp; done) | (simp; omega)) ?_)) (by simp) rfl (by decide) rfl rfl)
  replace HBcur := hide ((unhide HBcur).trans (bV24.mono (unhide HBcur).size))
  rw [← hV24]
  clear hV24 bV24
  refine (node_ex ⟨#[]⟩ false ⟨#[]⟩ ⟨#[]⟩ (unhide F14) (noStrs _) (noGroups _ _) (noStrs _) (noStrs _) (noStrs _) (unhide F13) (by decide) (by rw [nodeB_sz]; simp only [List.map_cons, List.map_nil, z10, z11, z12, z13, z14, z5, z8, z9]; decide +kernel)).mono ?_
  rintro e V25 ⟨R15, hR15, rfl, bV25⟩
  have z15 : R15.size = 1010 := by rw [hR15, nodeB_sz]; simp only [List.map_cons, List.map_nil, z10, z11, z12, z13, z14, z5, z8, z9]; decide +kernel
  replace F1 := hide ((unhide F1).keep (Keep.of_below bV25))
  replace F2 := hide ((unhide F2).keep (Keep.of_below bV25))
  replace F3 := hide ((unhide F3).keep (Keep.of_below bV25))
  replace F4 := hide ((unhide F4).keep (Keep.of_below bV25))
  replace F5 := hide ((unhide F5).keep (Keep.of_below bV25))
  replace F6 := hide ((unhide F6).keep (Keep.of_below bV25))
  replace F7 := hide ((unhide F7).keep (Keep.of_below bV25))
  replace F8 := hide ((unhide F8).keep (Keep.of_below bV25))
  replace F9 := hide ((unhide F9).keep (Keep.of_below bV25))
  replace F10 := hide ((unhide F10).keep (Keep.of_below bV25))
  replace F11 := hide ((unhide F11).keep (Keep.of_below bV25))
  replace F12 := hide ((unhide F12).keep (Keep.of_below bV25))
  replace F13 := hide ((unhide F13).keep (Keep.of_below bV25))
  replace F14 := hide ((unhide F14).keep (Keep.of_below bV25))
  replace HBcur := hide ((unhide HBcur).trans (bV25.mono (unhide HBcur).size))
  replace hR15 := hide hR15
  clear bV25
  go_wp2_with fail
  go_ret
  refine ⟨?_, unhide HBcur⟩
  refine congrArg (fun r => Ending.returned (Value.string r)) ?_
  clear HBcur F1 F2 F3 F4 F5 F6 F7 F8 F9 F10 F11 F12 F13 F14 z1 z2 z3 z4 z5 z6 z7 z8 z9 z10 z11 z12 z13 z14 z15
  have E : R15 = enc 6 shTree := by
    have q1 := unhide hR1
    clear hR1
    subst q1
    have q2 := unhide hR2
    clear hR2
    subst q2
    have q3 := unhide hR3
    clear hR3
    subst q3
    have q4 := unhide hR4
    clear hR4
    subst q4
    have q5 := unhide hR5
    clear hR5
    subst q5
    have q6 := unhide hR6
    clear hR6
    subst q6
    have q7 := unhide hR7
    clear hR7
    subst q7
    have q8 := unhide hR8
    clear hR8
    subst q8
    have q9 := unhide hR9
    clear hR9
    subst q9
    have q10 := unhide hR10
    clear hR10
    subst q10
    have q11 := unhide hR11
    clear hR11
    subst q11
    have q12 := unhide hR12
    clear hR12
    subst q12
    have q13 := unhide hR13
    clear hR13
    subst q13
    have q14 := unhide hR14
    clear hR14
    subst q14
    have q15 := unhide hR15
    clear hR15
    subst q15
    rfl
  exact E

end Go.Proofs.Qxb6601023a
