/-
  OWN WORK. zzShareholdersForm_b1, zzBoardForm_b1: the two expected texts are the encodings of the two trees.
-/
import Derived.Test.Qxb6601023aWantS
namespace Go.Proofs.Qxb6601023a
open Go Go.RowKit Go.Flow
set_option linter.unusedVariables false
set_option linter.unusedSimpArgs false

set_option maxRecDepth 100000 in
set_option maxHeartbeats 4000000 in
theorem bdForm9 (w : World) : Calls Try.prog 9 #[] w fun e w' => e = .returned (.string (enc 6 bdTree)) ∧ Below w.heap.size w w' := by
  have HBcur := hide (Below.refl w.heap.size w)
  go_enter Try.func9, Try.ntmps9
  go_wp2_with fail
  obtain ⟨V1, hV1⟩ : ∃ V, V = ((((w.alloc (.cells #[.string ⟨#[98, 97, 115, 101]⟩, .string ⟨#[98, 111, 117, 110, 100]⟩, .string ⟨#[115, 104, 97, 114, 101]⟩, .string ⟨#[97, 114, 116, 105, 99, 108, 101]⟩] 9)).alloc (.cells #[.string ⟨#[98, 97, 115, 101]⟩, .string ⟨#[98, 111, 117, 110, 100]⟩, .string ⟨#[115, 104, 97, 114, 101]⟩] 9)).alloc (.cells #[.string ⟨#[115, 101, 97, 116, 101, 100]⟩, .string ⟨#[97, 116, 116, 101, 110, 100, 105, 110, 103]⟩, .string ⟨#[117, 110, 114, 101, 108, 97, 116, 101, 100]⟩, .string ⟨#[105, 110, 100, 101, 112, 101, 110, 100, 101, 110, 116]⟩] 9)).alloc (.cells #[.string ⟨#[114, 101, 102, 101, 114, 95, 98, 101, 108, 111, 119]⟩, .string ⟨#[97, 114, 116, 105, 99, 108, 101]⟩] 9)) := ⟨_, rfl⟩
  have bV1 : Below w.heap.size w V1 := by subst hV1; exact (((((Below.refl w.heap.size w).alloc (by first | exact Nat.le_refl _ | (simp; done) | (simp; omega)) _).alloc (by first | exact Nat.le_refl _ | (simp; done) | (simp; omega)) _).alloc (by first | exact Nat.le_refl _ | (simp; done) | (simp; omega)) _).alloc (by first | exact Nat.le_refl _ | (simp; done) | (simp; omega)) _)
  have F1 : Hid (Strs [] V1 (.slice (some ⟨w.heap.size, 0, none⟩) 4 4) [⟨#[98, 97, 115, 101]⟩, ⟨#[98, 111, 117, 110, 100]⟩, ⟨#[115, 104, 97, 114, 101]⟩, ⟨#[97, 114, 116, 105, 99, 108, 101]⟩]) := hide (by subst hV1; exact strsLit (by repeat (first | exact blk_top _ _ (by simp; done) | refine blk_under _ (by first | (simp; done) | (simp; omega)) ?_)) (by simp) rfl (by decide) rfl rfl)
  have F2 : Hid (Strs [] V1 (.slice (some ⟨w.heap.size + 1, 0, none⟩) 3 3) [⟨#[98, 97, 115, 101]⟩, ⟨#[98, 111, 117, 110, 100]⟩, ⟨#[115, 104, 97, 114, 101]⟩]) := hide (by subst hV1; exact strsLit (by repeat (first | exact blk_top _ _ (by simp; done) | refine blk_under _ (by first | (simp; done) | (simp; omega)) ?_)) (by simp) rfl (by decide) rfl rfl)
  have F3 : Hid (Strs [] V1 (.slice (some ⟨w.heap.size + 2, 0, none⟩) 4 4) [⟨#[115, 101, 97, 116, 101, 100]⟩, ⟨#[97, 116, 116, 101, 110, 100, 105, 110, 103]⟩, ⟨#[117, 110, 114, 101, 108, 97, 116, 101, 100]⟩, ⟨#[105, 110, 100, 101, 112, 101, 110, 100, 101, 110, 116]⟩]) := hide (by subst hV1; exact strsLit (by repeat (first | exact blk_top _ _ (by simp; done) | refine blk_under _ (by first | (simp; done) | (simp; omega)) ?_)) (by simp) rfl (by decide) rfl rfl)
  have F4 : Hid (Strs [] V1 (.slice (some ⟨w.heap.size + 3, 0, none⟩) 2 2) [⟨#[114, 101, 102, 101, 114, 95, 98, 101, 108, 111, 119]⟩, ⟨#[97, 114, 116, 105, 99, 108, 101]⟩]) := hide (by subst hV1; exact strsLit (by repeat (first | exact blk_top _ _ (by simp; done) | refine blk_under _ (by first | (simp; done) | (simp; omega)) ?_)) (by simp) rfl (by decide) rfl rfl)
  replace HBcur := hide ((unhide HBcur).trans (bV1.mono (unhide HBcur).size))
  rw [← hV1]
  clear hV1 bV1
  refine (count_ex ⟨#[114, 101, 102, 101, 114, 95, 98, 101, 108, 111, 119]⟩ ⟨#[100, 105, 114, 101, 99, 116, 111, 114, 115]⟩ 0 (by decide) (by rw [encCount_sz]; decide +kernel) _).mono ?_
  rintro e V2 ⟨R1, hR1, rfl, bV2⟩
  have z1 : R1.size = 28 := by rw [hR1, encCount_sz]; decide +kernel
  replace F1 := hide ((unhide F1).keep (Keep.of_below bV2))
  replace F2 := hide ((unhide F2).keep (Keep.of_below bV2))
  replace F3 := hide ((unhide F3).keep (Keep.of_below bV2))
  replace F4 := hide ((unhide F4).keep (Keep.of_below bV2))
  replace HBcur := hide ((unhide HBcur).trans (bV2.mono (unhide HBcur).size))
  replace hR1 := hide hR1
  clear bV2
  go_wp2_with fail
  obtain ⟨V3, hV3⟩ : ∃ V, V = (V2.alloc (.cells #[.string R1] 9)) := ⟨_, rfl⟩
  have bV3 : Below V2.heap.size V2 V3 := by subst hV3; exact ((Below.refl V2.heap.size V2).alloc (by first | exact Nat.le_refl _ | (simp; done) | (simp; omega)) _)
  replace F1 := hide ((unhide F1).keep (Keep.of_below bV3))
  replace F2 := hide ((unhide F2).keep (Keep.of_below bV3))
  replace F3 := hide ((unhide F3).keep (Keep.of_below bV3))
  replace F4 := hide ((unhide F4).keep (Keep.of_below bV3))
  have F5 : Hid (Strs [] V3 (.slice (some ⟨V2.heap.size, 0, none⟩) 1 1) [R1]) := hide (by subst hV3; exact strsLit (by repeat (first | exact blk_top _ _ (by simp; done) | refine blk_under _ (by first | (simp; done) | (simp; omega)) ?_)) (by simp) rfl (by decide) rfl rfl)
  replace HBcur := hide ((unhide HBcur).trans (bV3.mono (unhide HBcur).size))
  rw [← hV3]
  clear hV3 bV3
  refine (thr_ex ⟨#[113, 117, 111, 114, 117, 109]⟩ ⟨#[97, 32, 98, 111, 97, 114, 100, 39, 115, 32, 91, 114, 101, 99, 117, 115, 97, 108, 93]⟩ (unhide F2) (unhide F3) (by rw [nodeB_sz]; decide +kernel)).mono ?_
  rintro e V4 ⟨R2, hR2, rfl, bV4⟩
  have z2 : R2.size = 120 := by rw [hR2, nodeB_sz]; decide +kernel
  replace F1 := hide ((unhide F1).keep (Keep.of_below bV4))
  replace F2 := hide ((unhide F2).keep (Keep.of_below bV4))
  replace F3 := hide ((unhide F3).keep (Keep.of_below bV4))
  replace F4 := hide ((unhide F4).keep (Keep.of_below bV4))
  replace F5 := hide ((unhide F5).keep (Keep.of_below bV4))
  replace HBcur := hide ((unhide HBcur).trans (bV4.mono (unhide HBcur).size))
  replace hR2 := hide hR2
  clear bV4
  go_wp2_with fail
  refine (thr_ex ⟨#[112, 97, 115, 115]⟩ ⟨#[97, 32, 98, 111, 97, 114, 100, 39, 115, 32, 91, 114, 101, 99, 117, 115, 97, 108, 93]⟩ (unhide F2) (unhide F3) (by rw [nodeB_sz]; decide +kernel)).mono ?_
  rintro e V5 ⟨R3, hR3, rfl, bV5⟩
  have z3 : R3.size = 118 := by rw [hR3, nodeB_sz]; decide +kernel
  replace F1 := hide ((unhide F1).keep (Keep.of_below bV5))
  replace F2 := hide ((unhide F2).keep (Keep.of_below bV5))
  replace F3 := hide ((unhide F3).keep (Keep.of_below bV5))
  replace F4 := hide ((unhide F4).keep (Keep.of_below bV5))
  replace F5 := hide ((unhide F5).keep (Keep.of_below bV5))
  replace HBcur := hide ((unhide HBcur).trans (bV5.mono (unhide HBcur).size))
  replace hR3 := hide hR3
  clear bV5
  go_wp2_with fail
  obtain ⟨V6, hV6⟩ : ∃ V, V = (V5.alloc (.cells #[.string R2, .string R3] 9)) := ⟨_, rfl⟩
  have bV6 : Below V5.heap.size V5 V6 := by subst hV6; exact ((Below.refl V5.heap.size V5).alloc (by first | exact Nat.le_refl _ | (simp; done) | (simp; omega)) _)
  replace F1 := hide ((unhide F1).keep (Keep.of_below bV6))
  replace F2 := hide ((unhide F2).keep (Keep.of_below bV6))
  replace F3 := hide ((unhide F3).keep (Keep.of_below bV6))
  replace F4 := hide ((unhide F4).keep (Keep.of_below bV6))
  replace F5 := hide ((unhide F5).keep (Keep.of_below bV6))
  have F6 : Hid (Strs [] V6 (.slice (some ⟨V5.heap.size, 0, none⟩) 2 2) [R2, R3]) := hide (by subst hV6; exact strsLit (by repeat (first | exact blk_top _ _ (by simp; done) | refine blk_under _ (by first | (simp; done) | (simp; omega)) ?_)) (by simp) rfl (by decide) rfl rfl)
  replace HBcur := hide ((unhide HBcur).trans (bV6.mono (unhide HBcur).size))
  rw [← hV6]
  clear hV6 bV6
  refine (node_ex ⟨#[114, 101, 99, 117, 115, 97, 108]⟩ false ⟨#[]⟩ ⟨#[114, 101, 102, 117, 115, 101]⟩ (unhide F4) (noStrs _) (noGroups _ _) (noStrs _) (unhide F5) (noStrs _) (unhide F6) (by decide) (by rw [nodeB_sz]; simp only [List.map_cons, List.map_nil, z1, z2, z3]; decide +kernel)).mono ?_
  rintro e V7 ⟨R4, hR4, rfl, bV7⟩
  have z4 : R4.size = 336 := by rw [hR4, nodeB_sz]; simp only [List.map_cons, List.map_nil, z1, z2, z3]; decide +kernel
  replace F1 := hide ((unhide F1).keep (Keep.of_below bV7))
  replace F2 := hide ((unhide F2).keep (Keep.of_below bV7))
  replace F3 := hide ((unhide F3).keep (Keep.of_below bV7))
  replace F4 := hide ((unhide F4).keep (Keep.of_below bV7))
  replace F5 := hide ((unhide F5).keep (Keep.of_below bV7))
  replace F6 := hide ((unhide F6).keep (Keep.of_below bV7))
  replace HBcur := hide ((unhide HBcur).trans (bV7.mono (unhide HBcur).size))
  replace hR4 := hide hR4
  clear bV7
  go_wp2_with fail
  obtain ⟨V8, hV8⟩ : ∃ V, V = ((V7.alloc (.cells #[.string ⟨#[97, 114, 116, 105, 99, 108, 101]⟩] 9)).alloc (.cells #[.string ⟨#[109, 97, 120, 95, 104, 101, 108, 100]⟩, .string ⟨#[105, 110, 100, 101, 112, 101, 110, 100, 101, 110, 116, 95, 110, 101, 101, 100, 115, 95, 105, 110, 100, 101, 112, 101, 110, 100, 101, 110, 116]⟩, .string ⟨#[117, 110, 114, 101, 108, 97, 116, 101, 100, 95, 110, 101, 101, 100, 115, 95, 117, 110, 114, 101, 108, 97, 116, 101, 100]⟩, .string ⟨#[105, 110, 115, 116, 114, 117, 99, 116, 105, 111, 110, 115, 95, 114, 101, 113, 117, 105, 114, 101, 100]⟩] 9)) := ⟨_, rfl⟩
  have bV8 : Below V7.heap.size V7 V8 := by subst hV8; exact (((Below.refl V7.heap.size V7).alloc (by first | exact Nat.le_refl _ | (simp; done) | (simp; omega)) _).alloc (by first | exact Nat.le_refl _ | (simp; done) | (simp; omega)) _)
  replace F1 := hide ((unhide F1).keep (Keep.of_below bV8))
  replace F2 := hide ((unhide F2).keep (Keep.of_below bV8))
  replace F3 := hide ((unhide F3).keep (Keep.of_below bV8))
  replace F4 := hide ((unhide F4).keep (Keep.of_below bV8))
  replace F5 := hide ((unhide F5).keep (Keep.of_below bV8))
  replace F6 := hide ((unhide F6).keep (Keep.of_below bV8))
  have F7 : Hid (Strs [] V8 (.slice (some ⟨V7.heap.size, 0, none⟩) 1 1) [⟨#[97, 114, 116, 105, 99, 108, 101]⟩]) := hide (by subst hV8; exact strsLit (by repeat (first | exact blk_top _ _ (by simp; done) | refine blk_under _ (by first | (simp; done) | (simp; omega)) ?_)) (by simp) rfl (by decide) rfl rfl)
  have F8 : Hid (Strs [] V8 (.slice (some ⟨V7.heap.size + 1, 0, none⟩) 4 4) [⟨#[109, 97, 120, 95, 104, 101, 108, 100]⟩, ⟨#[105, 110, 100, 101, 112, 101, 110, 100, 101, 110, 116, 95, 110, 101, 101, 100, 115, 95, 105, 110, 100, 101, 112, 101, 110, 100, 101, 110, 116]⟩, ⟨#[117, 110, 114, 101, 108, 97, 116, 101, 100, 95, 110, 101, 101, 100, 115, 95, 117, 110, 114, 101, 108, 97, 116, 101, 100]⟩, ⟨#[105, 110, 115, 116, 114, 117, 99, 116, 105, 111, 110, 115, 95, 114, 101, 113, 117, 105, 114, 101, 100]⟩]) := hide (by subst hV8; exact strsLit (by repeat (first | exact blk_top _ _ (by simp; done) | refine blk_under _ (by first | (simp; done) | (simp; omega)) ?_)) (by simp) rfl (by decide) rfl rfl)
  replace HBcur := hide ((unhide HBcur).trans (bV8.mono (unhide HBcur).size))
  rw [← hV8]
  clear hV8 bV8
  refine (count_ex ⟨#[109, 97, 120, 95, 104, 101, 108, 100]⟩ ⟨#[112, 114, 111, 120, 105, 101, 115]⟩ 0 (by decide) (by rw [encCount_sz]; decide +kernel) _).mono ?_
  rintro e V9 ⟨R5, hR5, rfl, bV9⟩
  have z5 : R5.size = 22 := by rw [hR5, encCount_sz]; decide +kernel
  replace F1 := hide ((unhide F1).keep (Keep.of_below bV9))
  replace F2 := hide ((unhide F2).keep (Keep.of_below bV9))
  replace F3 := hide ((unhide F3).keep (Keep.of_below bV9))
  replace F4 := hide ((unhide F4).keep (Keep.of_below bV9))
  replace F5 := hide ((unhide F5).keep (Keep.of_below bV9))
  replace F6 := hide ((unhide F6).keep (Keep.of_below bV9))
  replace F7 := hide ((unhide F7).keep (Keep.of_below bV9))
  replace F8 := hide ((unhide F8).keep (Keep.of_below bV9))
  replace HBcur := hide ((unhide HBcur).trans (bV9.mono (unhide HBcur).size))
  replace hR5 := hide hR5
  clear bV9
  go_wp2_with fail
  obtain ⟨V10, hV10⟩ : ∃ V, V = (V9.alloc (.cells #[.string R5] 9)) := ⟨_, rfl⟩
  have bV10 : Below V9.heap.size V9 V10 := by subst hV10; exact ((Below.refl V9.heap.size V9).alloc (by first | exact Nat.le_refl _ | (simp; done) | (simp; omega)) _)
  replace F1 := hide ((unhide F1).keep (Keep.of_below bV10))
  replace F2 := hide ((unhide F2).keep (Keep.of_below bV10))
  replace F3 := hide ((unhide F3).keep (Keep.of_below bV10))
  replace F4 := hide ((unhide F4).keep (Keep.of_below bV10))
  replace F5 := hide ((unhide F5).keep (Keep.of_below bV10))
  replace F6 := hide ((unhide F6).keep (Keep.of_below bV10))
  replace F7 := hide ((unhide F7).keep (Keep.of_below bV10))
  replace F8 := hide ((unhide F8).keep (Keep.of_below bV10))
  have F9 : Hid (Strs [] V10 (.slice (some ⟨V9.heap.size, 0, none⟩) 1 1) [R5]) := hide (by subst hV10; exact strsLit (by repeat (first | exact blk_top _ _ (by simp; done) | refine blk_under _ (by first | (simp; done) | (simp; omega)) ?_)) (by simp) rfl (by decide) rfl rfl)
  replace HBcur := hide ((unhide HBcur).trans (bV10.mono (unhide HBcur).size))
  rw [← hV10]
  clear hV10 bV10
  refine (node_ex ⟨#[112, 114, 111, 120, 121]⟩ false ⟨#[]⟩ ⟨#[114, 101, 102, 117, 115, 101]⟩ (unhide F7) (unhide F8) (noGroups _ _) (noStrs _) (unhide F9) (noStrs _) (noStrs _) (by decide) (by rw [nodeB_sz]; simp only [List.map_cons, List.map_nil, z5]; decide +kernel)).mono ?_
  rintro e V11 ⟨R6, hR6, rfl, bV11⟩
  have z6 : R6.size = 162 := by rw [hR6, nodeB_sz]; simp only [List.map_cons, List.map_nil, z5]; decide +kernel
  replace F1 := hide ((unhide F1).keep (Keep.of_below bV11))
  replace F2 := hide ((unhide F2).keep (Keep.of_below bV11))
  replace F3 := hide ((unhide F3).keep (Keep.of_below bV11))
  replace F4 := hide ((unhide F4).keep (Keep.of_below bV11))
  replace F5 := hide ((unhide F5).keep (Keep.of_below bV11))
  replace F6 := hide ((unhide F6).keep (Keep.of_below bV11))
  replace F7 := hide ((unhide F7).keep (Keep.of_below bV11))
  replace F8 := hide ((unhide F8).keep (Keep.of_below bV11))
  replace F9 := hide ((unhide F9).keep (Keep.of_below bV11))
  replace HBcur := hide ((unhide HBcur).trans (bV11.mono (unhide HBcur).size))
  replace hR6 := hide hR6
  clear bV11
  go_wp2_with fail
  obtain ⟨V12, hV12⟩ : ∃ V, V = ((((V11.alloc (.cells #[.string ⟨#[108, 97, 116, 101]⟩, .string ⟨#[97, 114, 116, 105, 99, 108, 101]⟩] 9)).alloc (.cells #[.string ⟨#[117, 110, 99, 97, 115, 116]⟩, .string ⟨#[117, 110, 99, 97, 115, 116, 95, 97, 114, 116, 105, 99, 108, 101]⟩] 9)).alloc (.cells #[.slice (some ⟨V11.heap.size, 0, none⟩) 2 2, .slice (some ⟨V11.heap.size + 1, 0, none⟩) 2 2] 24)).alloc (.cells #[.string ⟨#[108, 97, 116, 101]⟩, .string ⟨#[117, 110, 99, 97, 115, 116]⟩] 9)) := ⟨_, rfl⟩
  have bV12 : Below V11.heap.size V11 V12 := by subst hV12; exact (((((Below.refl V11.heap.size V11).alloc (by first | exact Nat.le_refl _ | (simp; done) | (simp; omega)) _).alloc (by first | exact Nat.le_refl _ | (simp; done) | (simp; omega)) _).alloc (by first | exact Nat.le_refl _ | (simp; done) | (simp; omega)) _).alloc (by first | exact Nat.le_refl _ | (simp; done) | (simp; omega)) _)
  replace F1 := hide ((unhide F1).keep (Keep.of_below bV12))
  replace F2 := hide ((unhide F2).keep (Keep.of_below bV12))
  replace F3 := hide ((unhide F3).keep (Keep.of_below bV12))
  replace F4 := hide ((unhide F4).keep (Keep.of_below bV12))
  replace F5 := hide ((unhide F5).keep (Keep.of_below bV12))
  replace F6 := hide ((unhide F6).keep (Keep.of_below bV12))
  replace F7 := hide ((unhide F7).keep (Keep.of_below bV12))
  replace F8 := hide ((unhide F8).keep (Keep.of_below bV12))
  replace F9 := hide ((unhide F9).keep (Keep.of_below bV12))
  have F10 : Hid (Strs [] V12 (.slice (some ⟨V11.heap.size, 0, none⟩) 2 2) [⟨#[108, 97, 116, 101]⟩, ⟨#[97, 114, 116, 105, 99, 108, 101]⟩]) := hide (by subst hV12; exact strsLit (by repeat (first | exact blk_top _ _ (by simp; done) | refine blk_under _ (by first | (simp; done) | (simp; omega)) ?_)) (by simp) rfl (by decide) rfl rfl)
  have F11 : Hid (Strs [] V12 (.slice (some ⟨V11.heap.size + 1, 0, none⟩) 2 2) [⟨#[117, 110, 99, 97, 115, 116]⟩, ⟨#[117, 110, 99, 97, 115, 116, 95, 97, 114, 116, 105, 99, 108, 101]⟩]) := hide (by subst hV12; exact strsLit (by repeat (first | exact blk_top _ _ (by simp; done) | refine blk_under _ (by first | (simp; done) | (simp; omega)) ?_)) (by simp) rfl (by decide) rfl rfl)
  have F12 : Hid (Groups [] V12 (.slice (some ⟨V11.heap.size + 2, 0, none⟩) 2 2) [[⟨#[108, 97, 116, 101]⟩, ⟨#[97, 114, 116, 105, 99, 108, 101]⟩], [⟨#[117, 110, 99, 97, 115, 116]⟩, ⟨#[117, 110, 99, 97, 115, 116, 95, 97, 114, 116, 105, 99, 108, 101]⟩]]) := hide (groupsLit (cs := #[.slice (some ⟨V11.heap.size, 0, none⟩) 2 2, .slice (some ⟨V11.heap.size + 1, 0, none⟩) 2 2]) (by subst hV12; exact (by repeat (first | exact blk_top _ _ (by simp; done) | refine blk_under _ (by first | (simp; done) | (simp; omega)) ?_))) (by simp) rfl (by decide) rfl (two_strs (unhide F10) (unhide F11)))
  have F13 : Hid (Strs [] V12 (.slice (some ⟨V11.heap.size + 3, 0, none⟩) 2 2) [⟨#[108, 97, 116, 101]⟩, ⟨#[117, 110, 99, 97, 115, 116]⟩]) := hide (by subst hV12; exact strsLit (by repeat (first | exact blk_top _ _ (by simp; done) | refine blk_under _ (by first | (simp; done) | (simp; omega)) ?_)) (by simp) rfl (by decide) rfl rfl)
  replace HBcur := hide ((unhide HBcur).trans (bV12.mono (unhide HBcur).size))
  rw [← hV12]
  clear hV12 bV12
  refine (node_ex ⟨#[98, 97, 108, 108, 111, 116]⟩ false ⟨#[]⟩ ⟨#[114, 101, 102, 117, 115, 101]⟩ (noStrs _) (noStrs _) (unhide F12) (unhide F13) (noStrs _) (noStrs _) (noStrs _) (by decide) (by rw [nodeB_sz]; decide +kernel)).mono ?_
  rintro e V13 ⟨R7, hR7, rfl, bV13⟩
  have z7 : R7.size = 99 := by rw [hR7, nodeB_sz]; decide +kernel
  replace F1 := hide ((unhide F1).keep (Keep.of_below bV13))
  replace F2 := hide ((unhide F2).keep (Keep.of_below bV13))
  replace F3 := hide ((unhide F3).keep (Keep.of_below bV13))
  replace F4 := hide ((unhide F4).keep (Keep.of_below bV13))
  replace F5 := hide ((unhide F5).keep (Keep.of_below bV13))
  replace F6 := hide ((unhide F6).keep (Keep.of_below bV13))
  replace F7 := hide ((unhide F7).keep (Keep.of_below bV13))
  replace F8 := hide ((unhide F8).keep (Keep.of_below bV13))
  replace F9 := hide ((unhide F9).keep (Keep.of_below bV13))
  replace F10 := hide ((unhide F10).keep (Keep.of_below bV13))
  replace F11 := hide ((unhide F11).keep (Keep.of_below bV13))
  replace F12 := hide ((unhide F12).keep (Keep.of_below bV13))
  replace F13 := hide ((unhide F13).keep (Keep.of_below bV13))
  replace HBcur := hide ((unhide HBcur).trans (bV13.mono (unhide HBcur).size))
  replace hR7 := hide hR7
  clear bV13
  go_wp2_with fail
  obtain ⟨V14, hV14⟩ : ∃ V, V = (V13.alloc (.cells #[.string ⟨#[97, 114, 116, 105, 99, 108, 101]⟩] 9)) := ⟨_, rfl⟩
  have bV14 : Below V13.heap.size V13 V14 := by subst hV14; exact ((Below.refl V13.heap.size V13).alloc (by first | exact Nat.le_refl _ | (simp; done) | (simp; omega)) _)
  replace F1 := hide ((unhide F1).keep (Keep.of_below bV14))
  replace F2 := hide ((unhide F2).keep (Keep.of_below bV14))
  replace F3 := hide ((unhide F3).keep (Keep.of_below bV14))
  replace F4 := hide ((unhide F4).keep (Keep.of_below bV14))
  replace F5 := hide ((unhide F5).keep (Keep.of_below bV14))
  replace F6 := hide ((unhide F6).keep (Keep.of_below bV14))
  replace F7 := hide ((unhide F7).keep (Keep.of_below bV14))
  replace F8 := hide ((unhide F8).keep (Keep.of_below bV14))
  replace F9 := hide ((unhide F9).keep (Keep.of_below bV14))
  replace F10 := hide ((unhide F10).keep (Keep.of_below bV14))
  replace F11 := hide ((unhide F11).keep (Keep.of_below bV14))
  replace F12 := hide ((unhide F12).keep (Keep.of_below bV14))
  replace F13 := hide ((unhide F13).keep (Keep.of_below bV14))
  have F14 : Hid (Strs [] V14 (.slice (some ⟨V13.heap.size, 0, none⟩) 1 1) [⟨#[97, 114, 116, 105, 99, 108, 101]⟩]) := hide (by subst hV14; exact strsLit (by repeat (first | exact blk_top _ _ (by simp; done) | refine blk_under _ (by first | (simp; done) | (simp; omega)) ?_)) (by simp) rfl (by decide) rfl rfl)
  replace HBcur := hide ((unhide HBcur).trans (bV14.mono (unhide HBcur).size))
  rw [← hV14]
  clear hV14 bV14
  refine (thr_ex ⟨#[99, 111, 110, 115, 101, 110, 116]⟩ ⟨#[97, 32, 98, 111, 97, 114, 100, 39, 115, 32, 91, 110, 111, 116, 105, 99, 101, 46, 99, 104, 97, 110, 103, 101, 46, 101, 120, 116, 114, 97, 111, 114, 100, 105, 110, 97, 114, 121, 93]⟩ (unhide F2) (unhide F3) (by rw [nodeB_sz]; decide +kernel)).mono ?_
  rintro e V15 ⟨R8, hR8, rfl, bV15⟩
  have z8 : R8.size = 141 := by rw [hR8, nodeB_sz]; decide +kernel
  replace F1 := hide ((unhide F1).keep (Keep.of_below bV15))
  replace F2 := hide ((unhide F2).keep (Keep.of_below bV15))
  replace F3 := hide ((unhide F3).keep (Keep.of_below bV15))
  replace F4 := hide ((unhide F4).keep (Keep.of_below bV15))
  replace F5 := hide ((unhide F5).keep (Keep.of_below bV15))
  replace F6 := hide ((unhide F6).keep (Keep.of_below bV15))
  replace F7 := hide ((unhide F7).keep (Keep.of_below bV15))
  replace F8 := hide ((unhide F8).keep (Keep.of_below bV15))
  replace F9 := hide ((unhide F9).keep (Keep.of_below bV15))
  replace F10 := hide ((unhide F10).keep (Keep.of_below bV15))
  replace F11 := hide ((unhide F11).keep (Keep.of_below bV15))
  replace F12 := hide ((unhide F12).keep (Keep.of_below bV15))
  replace F13 := hide ((unhide F13).keep (Keep.of_below bV15))
  replace F14 := hide ((unhide F14).keep (Keep.of_below bV15))
  replace HBcur := hide ((unhide HBcur).trans (bV15.mono (unhide HBcur).size))
  replace hR8 := hide hR8
  clear bV15
  go_wp2_with fail
  obtain ⟨V16, hV16⟩ : ∃ V, V = (V15.alloc (.cells #[.string R8] 9)) := ⟨_, rfl⟩
  have bV16 : Below V15.heap.size V15 V16 := by subst hV16; exact ((Below.refl V15.heap.size V15).alloc (by first | exact Nat.le_refl _ | (simp; done) | (simp; omega)) _)
  replace F1 := hide ((unhide F1).keep (Keep.of_below bV16))
  replace F2 := hide ((unhide F2).keep (Keep.of_below bV16))
  replace F3 := hide ((unhide F3).keep (Keep.of_below bV16))
  replace F4 := hide ((unhide F4).keep (Keep.of_below bV16))
  replace F5 := hide ((unhide F5).keep (Keep.of_below bV16))
  replace F6 := hide ((unhide F6).keep (Keep.of_below bV16))
  replace F7 := hide ((unhide F7).keep (Keep.of_below bV16))
  replace F8 := hide ((unhide F8).keep (Keep.of_below bV16))
  replace F9 := hide ((unhide F9).keep (Keep.of_below bV16))
  replace F10 := hide ((unhide F10).keep (Keep.of_below bV16))
  replace F11 := hide ((unhide F11).keep (Keep.of_below bV16))
  replace F12 := hide ((unhide F12).keep (Keep.of_below bV16))
  replace F13 := hide ((unhide F13).keep (Keep.of_below bV16))
  replace F14 := hide ((unhide F14).keep (Keep.of_below bV16))
  have F15 : Hid (Strs [] V16 (.slice (some ⟨V15.heap.size, 0, none⟩) 1 1) [R8]) := hide (by subst hV16; exact strsLit (by repeat (first | exact blk_top _ _ (by simp; done) | refine blk_under _ (by first | (simp; done) | (simp; omega)) ?_)) (by simp) rfl (by decide) rfl rfl)
  replace HBcur := hide ((unhide HBcur).trans (bV16.mono (unhide HBcur).size))
  rw [← hV16]
  clear hV16 bV16
  refine (node_ex ⟨#[101, 120, 116, 114, 97, 111, 114, 100, 105, 110, 97, 114, 121]⟩ false ⟨#[]⟩ ⟨#[110, 111, 45, 114, 117, 108, 101]⟩ (unhide F14) (noStrs _) (noGroups _ _) (noStrs _) (noStrs _) (noStrs _) (unhide F15) (by decide) (by rw [nodeB_sz]; simp only [List.map_cons, List.map_nil, z8]; decide +kernel)).mono ?_
  rintro e V17 ⟨R9, hR9, rfl, bV17⟩
  have z9 : R9.size = 198 := by rw [hR9, nodeB_sz]; simp only [List.map_cons, List.map_nil, z8]; decide +kernel
  replace F1 := hide ((unhide F1).keep (Keep.of_below bV17))
  replace F2 := hide ((unhide F2).keep (Keep.of_below bV17))
  replace F3 := hide ((unhide F3).keep (Keep.of_below bV17))
  replace F4 := hide ((unhide F4).keep (Keep.of_below bV17))
  replace F5 := hide ((unhide F5).keep (Keep.of_below bV17))
  replace F6 := hide ((unhide F6).keep (Keep.of_below bV17))
  replace F7 := hide ((unhide F7).keep (Keep.of_below bV17))
  replace F8 := hide ((unhide F8).keep (Keep.of_below bV17))
  replace F9 := hide ((unhide F9).keep (Keep.of_below bV17))
  replace F10 := hide ((unhide F10).keep (Keep.of_below bV17))
  replace F11 := hide ((unhide F11).keep (Keep.of_below bV17))
  replace F12 := hide ((unhide F12).keep (Keep.of_below bV17))
  replace F13 := hide ((unhide F13).keep (Keep.of_below bV17))
  replace F14 := hide ((unhide F14).keep (Keep.of_below bV17))
  replace F15 := hide ((unhide F15).keep (Keep.of_below bV17))
  replace HBcur := hide ((unhide HBcur).trans (bV17.mono (unhide HBcur).size))
  replace hR9 := hide hR9
  clear bV17
  go_wp2_with fail
  obtain ⟨V18, hV18⟩ : ∃ V, V = (V17.alloc (.cells #[.string ⟨#[100, 97, 121, 115]⟩, .string ⟨#[97, 114, 116, 105, 99, 108, 101]⟩] 9)) := ⟨_, rfl⟩
  have bV18 : Below V17.heap.size V17 V18 := by subst hV18; exact ((Below.refl V17.heap.size V17).alloc (by first | exact Nat.le_refl _ | (simp; done) | (simp; omega)) _)
  replace F1 := hide ((unhide F1).keep (Keep.of_below bV18))
  replace F2 := hide ((unhide F2).keep (Keep.of_below bV18))
  replace F3 := hide ((unhide F3).keep (Keep.of_below bV18))
  replace F4 := hide ((unhide F4).keep (Keep.of_below bV18))
  replace F5 := hide ((unhide F5).keep (Keep.of_below bV18))
  replace F6 := hide ((unhide F6).keep (Keep.of_below bV18))
  replace F7 := hide ((unhide F7).keep (Keep.of_below bV18))
  replace F8 := hide ((unhide F8).keep (Keep.of_below bV18))
  replace F9 := hide ((unhide F9).keep (Keep.of_below bV18))
  replace F10 := hide ((unhide F10).keep (Keep.of_below bV18))
  replace F11 := hide ((unhide F11).keep (Keep.of_below bV18))
  replace F12 := hide ((unhide F12).keep (Keep.of_below bV18))
  replace F13 := hide ((unhide F13).keep (Keep.of_below bV18))
  replace F14 := hide ((unhide F14).keep (Keep.of_below bV18))
  replace F15 := hide ((unhide F15).keep (Keep.of_below bV18))
  have F16 : Hid (Strs [] V18 (.slice (some ⟨V17.heap.size, 0, none⟩) 2 2) [⟨#[100, 97, 121, 115]⟩, ⟨#[97, 114, 116, 105, 99, 108, 101]⟩]) := hide (by subst hV18; exact strsLit (by repeat (first | exact blk_top _ _ (by simp; done) | refine blk_under _ (by first | (simp; done) | (simp; omega)) ?_)) (by simp) rfl (by decide) rfl rfl)
  replace HBcur := hide ((unhide HBcur).trans (bV18.mono (unhide HBcur).size))
  rw [← hV18]
  clear hV18 bV18
  refine (count_ex ⟨#[100, 97, 121, 115]⟩ ⟨#[100, 97, 121, 115]⟩ 0 (by decide) (by rw [encCount_sz]; decide +kernel) _).mono ?_
  rintro e V19 ⟨R10, hR10, rfl, bV19⟩
  have z10 : R10.size = 15 := by rw [hR10, encCount_sz]; decide +kernel
  replace F1 := hide ((unhide F1).keep (Keep.of_below bV19))
  replace F2 := hide ((unhide F2).keep (Keep.of_below bV19))
  replace F3 := hide ((unhide F3).keep (Keep.of_below bV19))
  replace F4 := hide ((unhide F4).keep (Keep.of_below bV19))
  replace F5 := hide ((unhide F5).keep (Keep.of_below bV19))
  replace F6 := hide ((unhide F6).keep (Keep.of_below bV19))
  replace F7 := hide ((unhide F7).keep (Keep.of_below bV19))
  replace F8 := hide ((unhide F8).keep (Keep.of_below bV19))
  replace F9 := hide ((unhide F9).keep (Keep.of_below bV19))
  replace F10 := hide ((unhide F10).keep (Keep.of_below bV19))
  replace F11 := hide ((unhide F11).keep (Keep.of_below bV19))
  replace F12 := hide ((unhide F12).keep (Keep.of_below bV19))
  replace F13 := hide ((unhide F13).keep (Keep.of_below bV19))
  replace F14 := hide ((unhide F14).keep (Keep.of_below bV19))
  replace F15 := hide ((unhide F15).keep (Keep.of_below bV19))
  replace F16 := hide ((unhide F16).keep (Keep.of_below bV19))
  replace HBcur := hide ((unhide HBcur).trans (bV19.mono (unhide HBcur).size))
  replace hR10 := hide hR10
  clear bV19
  go_wp2_with fail
  obtain ⟨V20, hV20⟩ : ∃ V, V = (V19.alloc (.cells #[.string R10] 9)) := ⟨_, rfl⟩
  have bV20 : Below V19.heap.size V19 V20 := by subst hV20; exact ((Below.refl V19.heap.size V19).alloc (by first | exact Nat.le_refl _ | (simp; done) | (simp; omega)) _)
  replace F1 := hide ((unhide F1).keep (Keep.of_below bV20))
  replace F2 := hide ((unhide F2).keep (Keep.of_below bV20))
  replace F3 := hide ((unhide F3).keep (Keep.of_below bV20))
  replace F4 := hide ((unhide F4).keep (Keep.of_below bV20))
  replace F5 := hide ((unhide F5).keep (Keep.of_below bV20))
  replace F6 := hide ((unhide F6).keep (Keep.of_below bV20))
  replace F7 := hide ((unhide F7).keep (Keep.of_below bV20))
  replace F8 := hide ((unhide F8).keep (Keep.of_below bV20))
  replace F9 := hide ((unhide F9).keep (Keep.of_below bV20))
  replace F10 := hide ((unhide F10).keep (Keep.of_below bV20))
  replace F11 := hide ((unhide F11).keep (Keep.of_below bV20))
  replace F12 := hide ((unhide F12).keep (Keep.of_below bV20))
  replace F13 := hide ((unhide F13).keep (Keep.of_below bV20))
  replace F14 := hide ((unhide F14).keep (Keep.of_below bV20))
  replace F15 := hide ((unhide F15).keep (Keep.of_below bV20))
  replace F16 := hide ((unhide F16).keep (Keep.of_below bV20))
  have F17 : Hid (Strs [] V20 (.slice (some ⟨V19.heap.size, 0, none⟩) 1 1) [R10]) := hide (by subst hV20; exact strsLit (by repeat (first | exact blk_top _ _ (by simp; done) | refine blk_under _ (by first | (simp; done) | (simp; omega)) ?_)) (by simp) rfl (by decide) rfl rfl)
  replace HBcur := hide ((unhide HBcur).trans (bV20.mono (unhide HBcur).size))
  rw [← hV20]
  clear hV20 bV20
  refine (thr_ex ⟨#[99, 111, 110, 115, 101, 110, 116]⟩ ⟨#[]⟩ (unhide F2) (unhide F3) (by rw [nodeB_sz]; decide +kernel)).mono ?_
  rintro e V21 ⟨R11, hR11, rfl, bV21⟩
  have z11 : R11.size = 101 := by rw [hR11, nodeB_sz]; decide +kernel
  replace F1 := hide ((unhide F1).keep (Keep.of_below bV21))
  replace F2 := hide ((unhide F2).keep (Keep.of_below bV21))
  replace F3 := hide ((unhide F3).keep (Keep.of_below bV21))
  replace F4 := hide ((unhide F4).keep (Keep.of_below bV21))
  replace F5 := hide ((unhide F5).keep (Keep.of_below bV21))
  replace F6 := hide ((unhide F6).keep (Keep.of_below bV21))
  replace F7 := hide ((unhide F7).keep (Keep.of_below bV21))
  replace F8 := hide ((unhide F8).keep (Keep.of_below bV21))
  replace F9 := hide ((unhide F9).keep (Keep.of_below bV21))
  replace F10 := hide ((unhide F10).keep (Keep.of_below bV21))
  replace F11 := hide ((unhide F11).keep (Keep.of_below bV21))
  replace F12 := hide ((unhide F12).keep (Keep.of_below bV21))
  replace F13 := hide ((unhide F13).keep (Keep.of_below bV21))
  replace F14 := hide ((unhide F14).keep (Keep.of_below bV21))
  replace F15 := hide ((unhide F15).keep (Keep.of_below bV21))
  replace F16 := hide ((unhide F16).keep (Keep.of_below bV21))
  replace F17 := hide ((unhide F17).keep (Keep.of_below bV21))
  replace HBcur := hide ((unhide HBcur).trans (bV21.mono (unhide HBcur).size))
  replace hR11 := hide hR11
  clear bV21
  go_wp2_with fail
  obtain ⟨V22, hV22⟩ : ∃ V, V = (V21.alloc (.cells #[.string R11, .string R9] 9)) := ⟨_, rfl⟩
  have bV22 : Below V21.heap.size V21 V22 := by subst hV22; exact ((Below.refl V21.heap.size V21).alloc (by first | exact Nat.le_refl _ | (simp; done) | (simp; omega)) _)
  replace F1 := hide ((unhide F1).keep (Keep.of_below bV22))
  replace F2 := hide ((unhide F2).keep (Keep.of_below bV22))
  replace F3 := hide ((unhide F3).keep (Keep.of_below bV22))
  replace F4 := hide ((unhide F4).keep (Keep.of_below bV22))
  replace F5 := hide ((unhide F5).keep (Keep.of_below bV22))
  replace F6 := hide ((unhide F6).keep (Keep.of_below bV22))
  replace F7 := hide ((unhide F7).keep (Keep.of_below bV22))
  replace F8 := hide ((unhide F8).keep (Keep.of_below bV22))
  replace F9 := hide ((unhide F9).keep (Keep.of_below bV22))
  replace F10 := hide ((unhide F10).keep (Keep.of_below bV22))
  replace F11 := hide ((unhide F11).keep (Keep.of_below bV22))
  replace F12 := hide ((unhide F12).keep (Keep.of_below bV22))
  replace F13 := hide ((unhide F13).keep (Keep.of_below bV22))
  replace F14 := hide ((unhide F14).keep (Keep.of_below bV22))
  replace F15 := hide ((unhide F15).keep (Keep.of_below bV22))
  replace F16 := hide ((unhide F16).keep (Keep.of_below bV22))
  replace F17 := hide ((unhide F17).keep (Keep.of_below bV22))
  have F18 : Hid (Strs [] V22 (.slice (some ⟨V21.heap.size, 0, none⟩) 2 2) [R11, R9]) := hide (by subst hV22; exact strsLit (by repeat (first | exact blk_top _ _ (by simp; done) | refine blk_under _ (by first | (simp; done) | (simp; omega)) ?_)) (by simp) rfl (by decide) rfl rfl)
  replace HBcur := hide ((unhide HBcur).trans (bV22.mono (unhide HBcur).size))
  rw [← hV22]
  clear hV22 bV22
  refine (node_ex ⟨#[99, 104, 97, 110, 103, 101]⟩ false ⟨#[]⟩ ⟨#[110, 111, 45, 114, 117, 108, 101]⟩ (unhide F16) (noStrs _) (noGroups _ _) (noStrs _) (unhide F17) (noStrs _) (unhide F18) (by decide) (by rw [nodeB_sz]; simp only [List.map_cons, List.map_nil, z10, z11, z9]; decide +kernel)).mono ?_
  rintro e V23 ⟨R12, hR12, rfl, bV23⟩
  have z12 : R12.size = 376 := by rw [hR12, nodeB_sz]; simp only [List.map_cons, List.map_nil, z10, z11, z9]; decide +kernel
  replace F1 := hide ((unhide F1).keep (Keep.of_below bV23))
  replace F2 := hide ((unhide F2).keep (Keep.of_below bV23))
  replace F3 := hide ((unhide F3).keep (Keep.of_below bV23))
  replace F4 := hide ((unhide F4).keep (Keep.of_below bV23))
  replace F5 := hide ((unhide F5).keep (Keep.of_below bV23))
  replace F6 := hide ((unhide F6).keep (Keep.of_below bV23))
  replace F7 := hide ((unhide F7).keep (Keep.of_below bV23))
  replace F8 := hide ((unhide F8).keep (Keep.of_below bV23))
  replace F9 := hide ((unhide F9).keep (Keep.of_below bV23))
  replace F10 := hide ((unhide F10).keep (Keep.of_below bV23))
  replace F11 := hide ((unhide F11).keep (Keep.of_below bV23))
  replace F12 := hide ((unhide F12).keep (Keep.of_below bV23))
  replace F13 := hide ((unhide F13).keep (Keep.of_below bV23))
  replace F14 := hide ((unhide F14).keep (Keep.of_below bV23))
  replace F15 := hide ((unhide F15).keep (Keep.of_below bV23))
  replace F16 := hide ((unhide F16).keep (Keep.of_below bV23))
  replace F17 := hide ((unhide F17).keep (Keep.of_below bV23))
  replace F18 := hide ((unhide F18).keep (Keep.of_below bV23))
  replace HBcur := hide ((unhide HBcur).trans (bV23.mono (unhide HBcur).size))
  replace hR12 := hide hR12
  clear bV23
  go_wp2_with fail
  obtain ⟨V24, hV24⟩ : ∃ V, V = (V23.alloc (.cells #[.string ⟨#[114, 101, 103, 117, 108, 97, 114, 95, 100, 97, 121, 115]⟩, .string ⟨#[101, 120, 116, 114, 97, 111, 114, 100, 105, 110, 97, 114, 121, 95, 100, 97, 121, 115]⟩, .string ⟨#[117, 114, 103, 101, 110, 116, 95, 111, 114, 97, 108]⟩, .string ⟨#[100, 97, 121, 95, 99, 111, 117, 110, 116]⟩, .string ⟨#[97, 114, 116, 105, 99, 108, 101]⟩] 9)) := ⟨_, rfl⟩
  have bV24 : Below V23.heap.size V23 V24 := by subst hV24; exact ((Below.refl V23.heap.size V23).alloc (by first | exact Nat.le_refl _ | (simp; done) | (simp; omega)) _)
  replace F1 := hide ((unhide F1).keep (Keep.of_below bV24))
  replace F2 := hide ((unhide F2).keep (Keep.of_below bV24))
  replace F3 := hide ((unhide F3).keep (Keep.of_below bV24))
  replace F4 := hide ((unhide F4).keep (Keep.of_below bV24))
  replace F5 := hide ((unhide F5).keep (Keep.of_below bV24))
  replace F6 := hide ((unhide F6).keep (Keep.of_below bV24))
  replace F7 := hide ((unhide F7).keep (Keep.of_below bV24))
  replace F8 := hide ((unhide F8).keep (Keep.of_below bV24))
  replace F9 := hide ((unhide F9).keep (Keep.of_below bV24))
  replace F10 := hide ((unhide F10).keep (Keep.of_below bV24))
  replace F11 := hide ((unhide F11).keep (Keep.of_below bV24))
  replace F12 := hide ((unhide F12).keep (Keep.of_below bV24))
  replace F13 := hide ((unhide F13).keep (Keep.of_below bV24))
  replace F14 := hide ((unhide F14).keep (Keep.of_below bV24))
  replace F15 := hide ((unhide F15).keep (Keep.of_below bV24))
  replace F16 := hide ((unhide F16).keep (Keep.of_below bV24))
  replace F17 := hide ((unhide F17).keep (Keep.of_below bV24))
  replace F18 := hide ((unhide F18).keep (Keep.of_below bV24))
  have F19 : Hid (Strs [] V24 (.slice (some ⟨V23.heap.size, 0, none⟩) 5 5) [⟨#[114, 101, 103, 117, 108, 97, 114, 95, 100, 97, 121, 115]⟩, ⟨#[101, 120, 116, 114, 97, 111, 114, 100, 105, 110, 97, 114, 121, 95, 100, 97, 121, 115]⟩, ⟨#[117, 114, 103, 101, 110, 116, 95, 111, 114, 97, 108]⟩, ⟨#[100, 97, 121, 95, 99, 111, 117, 110, 116]⟩, ⟨#[97, 114, 116, 105, 99, 108, 101]⟩]) := hide (by subst hV24; exact strsLit (by repeat (first | exact blk_top _ _ (by simp; done) | refine blk_under _ (by first | (simp; done) | (simp; omega)) ?_)) (by simp) rfl (by decide) rfl rfl)
  replace HBcur := hide ((unhide HBcur).trans (bV24.mono (unhide HBcur).size))
  rw [← hV24]
  clear hV24 bV24
  refine (count_ex ⟨#[114, 101, 103, 117, 108, 97, 114, 95, 100, 97, 121, 115]⟩ ⟨#[100, 97, 121, 115]⟩ 0 (by decide) (by rw [encCount_sz]; decide +kernel) _).mono ?_
  rintro e V25 ⟨R13, hR13, rfl, bV25⟩
  have z13 : R13.size = 24 := by rw [hR13, encCount_sz]; decide +kernel
  replace F1 := hide ((unhide F1).keep (Keep.of_below bV25))
  replace F2 := hide ((unhide F2).keep (Keep.of_below bV25))
  replace F3 := hide ((unhide F3).keep (Keep.of_below bV25))
  replace F4 := hide ((unhide F4).keep (Keep.of_below bV25))
  replace F5 := hide ((unhide F5).keep (Keep.of_below bV25))
  replace F6 := hide ((unhide F6).keep (Keep.of_below bV25))
  replace F7 := hide ((unhide F7).keep (Keep.of_below bV25))
  replace F8 := hide ((unhide F8).keep (Keep.of_below bV25))
  replace F9 := hide ((unhide F9).keep (Keep.of_below bV25))
  replace F10 := hide ((unhide F10).keep (Keep.of_below bV25))
  replace F11 := hide ((unhide F11).keep (Keep.of_below bV25))
  replace F12 := hide ((unhide F12).keep (Keep.of_below bV25))
  replace F13 := hide ((unhide F13).keep (Keep.of_below bV25))
  replace F14 := hide ((unhide F14).keep (Keep.of_below bV25))
  replace F15 := hide ((unhide F15).keep (Keep.of_below bV25))
  replace F16 := hide ((unhide F16).keep (Keep.of_below bV25))
  replace F17 := hide ((unhide F17).keep (Keep.of_below bV25))
  replace F18 := hide ((unhide F18).keep (Keep.of_below bV25))
  replace F19 := hide ((unhide F19).keep (Keep.of_below bV25))
  replace HBcur := hide ((unhide HBcur).trans (bV25.mono (unhide HBcur).size))
  replace hR13 := hide hR13
  clear bV25
  go_wp2_with fail
  refine (count_ex ⟨#[101, 120, 116, 114, 97, 111, 114, 100, 105, 110, 97, 114, 121, 95, 100, 97, 121, 115]⟩ ⟨#[100, 97, 121, 115]⟩ 0 (by decide) (by rw [encCount_sz]; decide +kernel) _).mono ?_
  rintro e V26 ⟨R14, hR14, rfl, bV26⟩
  have z14 : R14.size = 30 := by rw [hR14, encCount_sz]; decide +kernel
  replace F1 := hide ((unhide F1).keep (Keep.of_below bV26))
  replace F2 := hide ((unhide F2).keep (Keep.of_below bV26))
  replace F3 := hide ((unhide F3).keep (Keep.of_below bV26))
  replace F4 := hide ((unhide F4).keep (Keep.of_below bV26))
  replace F5 := hide ((unhide F5).keep (Keep.of_below bV26))
  replace F6 := hide ((unhide F6).keep (Keep.of_below bV26))
  replace F7 := hide ((unhide F7).keep (Keep.of_below bV26))
  replace F8 := hide ((unhide F8).keep (Keep.of_below bV26))
  replace F9 := hide ((unhide F9).keep (Keep.of_below bV26))
  replace F10 := hide ((unhide F10).keep (Keep.of_below bV26))
  replace F11 := hide ((unhide F11).keep (Keep.of_below bV26))
  replace F12 := hide ((unhide F12).keep (Keep.of_below bV26))
  replace F13 := hide ((unhide F13).keep (Keep.of_below bV26))
  replace F14 := hide ((unhide F14).keep (Keep.of_below bV26))
  replace F15 := hide ((unhide F15).keep (Keep.of_below bV26))
  replace F16 := hide ((unhide F16).keep (Keep.of_below bV26))
  replace F17 := hide ((unhide F17).keep (Keep.of_below bV26))
  replace F18 := hide ((unhide F18).keep (Keep.of_below bV26))
  replace F19 := hide ((unhide F19).keep (Keep.of_below bV26))
  replace HBcur := hide ((unhide HBcur).trans (bV26.mono (unhide HBcur).size))
  replace hR14 := hide hR14
  clear bV26
  go_wp2_with fail
  obtain ⟨V27, hV27⟩ : ∃ V, V = ((V26.alloc (.cells #[.string R13, .string R14] 9)).alloc (.cells #[.string R12] 9)) := ⟨_, rfl⟩
  have bV27 : Below V26.heap.size V26 V27 := by subst hV27; exact (((Below.refl V26.heap.size V26).alloc (by first | exact Nat.le_refl _ | (simp; done) | (simp; omega)) _).alloc (by first | exact Nat.le_refl _ | (simp; done) | (simp; omega)) _)
  replace F1 := hide ((unhide F1).keep (Keep.of_below bV27))
  replace F2 := hide ((unhide F2).keep (Keep.of_below bV27))
  replace F3 := hide ((unhide F3).keep (Keep.of_below bV27))
  replace F4 := hide ((unhide F4).keep (Keep.of_below bV27))
  replace F5 := hide ((unhide F5).keep (Keep.of_below bV27))
  replace F6 := hide ((unhide F6).keep (Keep.of_below bV27))
  replace F7 := hide ((unhide F7).keep (Keep.of_below bV27))
  replace F8 := hide ((unhide F8).keep (Keep.of_below bV27))
  replace F9 := hide ((unhide F9).keep (Keep.of_below bV27))
  replace F10 := hide ((unhide F10).keep (Keep.of_below bV27))
  replace F11 := hide ((unhide F11).keep (Keep.of_below bV27))
  replace F12 := hide ((unhide F12).keep (Keep.of_below bV27))
  replace F13 := hide ((unhide F13).keep (Keep.of_below bV27))
  replace F14 := hide ((unhide F14).keep (Keep.of_below bV27))
  replace F15 := hide ((unhide F15).keep (Keep.of_below bV27))
  replace F16 := hide ((unhide F16).keep (Keep.of_below bV27))
  replace F17 := hide ((unhide F17).keep (Keep.of_below bV27))
  replace F18 := hide ((unhide F18).keep (Keep.of_below bV27))
  replace F19 := hide ((unhide F19).keep (Keep.of_below bV27))
  have F20 : Hid (Strs [] V27 (.slice (some ⟨V26.heap.size, 0, none⟩) 2 2) [R13, R14]) := hide (by subst hV27; exact strsLit (by repeat (first | exact blk_top _ _ (by simp; done) | refine blk_under _ (by first | (simp; done) | (simp; omega)) ?_)) (by simp) rfl (by decide) rfl rfl)
  have F21 : Hid (Strs [] V27 (.slice (some ⟨V26.heap.size + 1, 0, none⟩) 1 1) [R12]) := hide (by subst hV27; exact strsLit (by repeat (first | exact blk_top _ _ (by simp; done) | refine blk_under _ (by first | (simp; done) | (simp; omega)) ?_)) (by simp) rfl (by decide) rfl rfl)
  replace HBcur := hide ((unhide HBcur).trans (bV27.mono (unhide HBcur).size))
  rw [← hV27]
  clear hV27 bV27
  refine (node_ex ⟨#[110, 111, 116, 105, 99, 101]⟩ false ⟨#[]⟩ ⟨#[110, 111, 45, 114, 117, 108, 101]⟩ (unhide F19) (noStrs _) (noGroups _ _) (noStrs _) (unhide F20) (noStrs _) (unhide F21) (by decide) (by rw [nodeB_sz]; simp only [List.map_cons, List.map_nil, z12, z13, z14]; decide +kernel)).mono ?_
  rintro e V28 ⟨R15, hR15, rfl, bV28⟩
  have z15 : R15.size = 546 := by rw [hR15, nodeB_sz]; simp only [List.map_cons, List.map_nil, z12, z13, z14]; decide +kernel
  replace F1 := hide ((unhide F1).keep (Keep.of_below bV28))
  replace F2 := hide ((unhide F2).keep (Keep.of_below bV28))
  replace F3 := hide ((unhide F3).keep (Keep.of_below bV28))
  replace F4 := hide ((unhide F4).keep (Keep.of_below bV28))
  replace F5 := hide ((unhide F5).keep (Keep.of_below bV28))
  replace F6 := hide ((unhide F6).keep (Keep.of_below bV28))
  replace F7 := hide ((unhide F7).keep (Keep.of_below bV28))
  replace F8 := hide ((unhide F8).keep (Keep.of_below bV28))
  replace F9 := hide ((unhide F9).keep (Keep.of_below bV28))
  replace F10 := hide ((unhide F10).keep (Keep.of_below bV28))
  replace F11 := hide ((unhide F11).keep (Keep.of_below bV28))
  replace F12 := hide ((unhide F12).keep (Keep.of_below bV28))
  replace F13 := hide ((unhide F13).keep (Keep.of_below bV28))
  replace F14 := hide ((unhide F14).keep (Keep.of_below bV28))
  replace F15 := hide ((unhide F15).keep (Keep.of_below bV28))
  replace F16 := hide ((unhide F16).keep (Keep.of_below bV28))
  replace F17 := hide ((unhide F17).keep (Keep.of_below bV28))
  replace F18 := hide ((unhide F18).keep (Keep.of_below bV28))
  replace F19 := hide ((unhide F19).keep (Keep.of_below bV28))
  replace F20 := hide ((unhide F20).keep (Keep.of_below bV28))
  replace F21 := hide ((unhide F21).keep (Keep.of_below bV28))
  replace HBcur := hide ((unhide HBcur).trans (bV28.mono (unhide HBcur).size))
  replace hR15 := hide hR15
  clear bV28
  go_wp2_with fail
  obtain ⟨V29, hV29⟩ : ∃ V, V = (V28.alloc (.cells #[.string ⟨#[110, 97, 109, 101]⟩] 9)) := ⟨_, rfl⟩
  have bV29 : Below V28.heap.size V28 V29 := by subst hV29; exact ((Below.refl V28.heap.size V28).alloc (by first | exact Nat.le_refl _ | (simp; done) | (simp; omega)) _)
  replace F1 := hide ((unhide F1).keep (Keep.of_below bV29))
  replace F2 := hide ((unhide F2).keep (Keep.of_below bV29))
  replace F3 := hide ((unhide F3).keep (Keep.of_below bV29))
  replace F4 := hide ((unhide F4).keep (Keep.of_below bV29))
  replace F5 := hide ((unhide F5).keep (Keep.of_below bV29))
  replace F6 := hide ((unhide F6).keep (Keep.of_below bV29))
  replace F7 := hide ((unhide F7).keep (Keep.of_below bV29))
  replace F8 := hide ((unhide F8).keep (Keep.of_below bV29))
  replace F9 := hide ((unhide F9).keep (Keep.of_below bV29))
  replace F10 := hide ((unhide F10).keep (Keep.of_below bV29))
  replace F11 := hide ((unhide F11).keep (Keep.of_below bV29))
  replace F12 := hide ((unhide F12).keep (Keep.of_below bV29))
  replace F13 := hide ((unhide F13).keep (Keep.of_below bV29))
  replace F14 := hide ((unhide F14).keep (Keep.of_below bV29))
  replace F15 := hide ((unhide F15).keep (Keep.of_below bV29))
  replace F16 := hide ((unhide F16).keep (Keep.of_below bV29))
  replace F17 := hide ((unhide F17).keep (Keep.of_below bV29))
  replace F18 := hide ((unhide F18).keep (Keep.of_below bV29))
  replace F19 := hide ((unhide F19).keep (Keep.of_below bV29))
  replace F20 := hide ((unhide F20).keep (Keep.of_below bV29))
  replace F21 := hide ((unhide F21).keep (Keep.of_below bV29))
  have F22 : Hid (Strs [] V29 (.slice (some ⟨V28.heap.size, 0, none⟩) 1 1) [⟨#[110, 97, 109, 101]⟩]) := hide (by subst hV29; exact strsLit (by repeat (first | exact blk_top _ _ (by simp; done) | refine blk_under _ (by first | (simp; done) | (simp; omega)) ?_)) (by simp) rfl (by decide) rfl rfl)
  replace HBcur := hide ((unhide HBcur).trans (bV29.mono (unhide HBcur).size))
  rw [← hV29]
  clear hV29 bV29
  refine (thr_ex ⟨#[112, 97, 115, 115]⟩ ⟨#[]⟩ (unhide F1) (unhide F3) (by rw [nodeB_sz]; decide +kernel)).mono ?_
  rintro e V30 ⟨R16, hR16, rfl, bV30⟩
  have z16 : R16.size = 107 := by rw [hR16, nodeB_sz]; decide +kernel
  replace F1 := hide ((unhide F1).keep (Keep.of_below bV30))
  replace F2 := hide ((unhide F2).keep (Keep.of_below bV30))
  replace F3 := hide ((unhide F3).keep (Keep.of_below bV30))
  replace F4 := hide ((unhide F4).keep (Keep.of_below bV30))
  replace F5 := hide ((unhide F5).keep (Keep.of_below bV30))
  replace F6 := hide ((unhide F6).keep (Keep.of_below bV30))
  replace F7 := hide ((unhide F7).keep (Keep.of_below bV30))
  replace F8 := hide ((unhide F8).keep (Keep.of_below bV30))
  replace F9 := hide ((unhide F9).keep (Keep.of_below bV30))
  replace F10 := hide ((unhide F10).keep (Keep.of_below bV30))
  replace F11 := hide ((unhide F11).keep (Keep.of_below bV30))
  replace F12 := hide ((unhide F12).keep (Keep.of_below bV30))
  replace F13 := hide ((unhide F13).keep (Keep.of_below bV30))
  replace F14 := hide ((unhide F14).keep (Keep.of_below bV30))
  replace F15 := hide ((unhide F15).keep (Keep.of_below bV30))
  replace F16 := hide ((unhide F16).keep (Keep.of_below bV30))
  replace F17 := hide ((unhide F17).keep (Keep.of_below bV30))
  replace F18 := hide ((unhide F18).keep (Keep.of_below bV30))
  replace F19 := hide ((unhide F19).keep (Keep.of_below bV30))
  replace F20 := hide ((unhide F20).keep (Keep.of_below bV30))
  replace F21 := hide ((unhide F21).keep (Keep.of_below bV30))
  replace F22 := hide ((unhide F22).keep (Keep.of_below bV30))
  replace HBcur := hide ((unhide HBcur).trans (bV30.mono (unhide HBcur).size))
  replace hR16 := hide hR16
  clear bV30
  go_wp2_with fail
  refine (node_ex ⟨#[101, 120, 116, 114, 97]⟩ true ⟨#[]⟩ ⟨#[110, 111, 45, 114, 117, 108, 101]⟩ (unhide F1) (noStrs _) (noGroups _ _) (noStrs _) (noStrs _) (unhide F3) (noStrs _) (by decide) (by rw [nodeB_sz]; decide +kernel)).mono ?_
  rintro e V31 ⟨R17, hR17, rfl, bV31⟩
  have z17 : R17.size = 108 := by rw [hR17, nodeB_sz]; decide +kernel
  replace F1 := hide ((unhide F1).keep (Keep.of_below bV31))
  replace F2 := hide ((unhide F2).keep (Keep.of_below bV31))
  replace F3 := hide ((unhide F3).keep (Keep.of_below bV31))
  replace F4 := hide ((unhide F4).keep (Keep.of_below bV31))
  replace F5 := hide ((unhide F5).keep (Keep.of_below bV31))
  replace F6 := hide ((unhide F6).keep (Keep.of_below bV31))
  replace F7 := hide ((unhide F7).keep (Keep.of_below bV31))
  replace F8 := hide ((unhide F8).keep (Keep.of_below bV31))
  replace F9 := hide ((unhide F9).keep (Keep.of_below bV31))
  replace F10 := hide ((unhide F10).keep (Keep.of_below bV31))
  replace F11 := hide ((unhide F11).keep (Keep.of_below bV31))
  replace F12 := hide ((unhide F12).keep (Keep.of_below bV31))
  replace F13 := hide ((unhide F13).keep (Keep.of_below bV31))
  replace F14 := hide ((unhide F14).keep (Keep.of_below bV31))
  replace F15 := hide ((unhide F15).keep (Keep.of_below bV31))
  replace F16 := hide ((unhide F16).keep (Keep.of_below bV31))
  replace F17 := hide ((unhide F17).keep (Keep.of_below bV31))
  replace F18 := hide ((unhide F18).keep (Keep.of_below bV31))
  replace F19 := hide ((unhide F19).keep (Keep.of_below bV31))
  replace F20 := hide ((unhide F20).keep (Keep.of_below bV31))
  replace F21 := hide ((unhide F21).keep (Keep.of_below bV31))
  replace F22 := hide ((unhide F22).keep (Keep.of_below bV31))
  replace HBcur := hide ((unhide HBcur).trans (bV31.mono (unhide HBcur).size))
  replace hR17 := hide hR17
  clear bV31
  go_wp2_with fail
  obtain ⟨V32, hV32⟩ : ∃ V, V = (V31.alloc (.cells #[.string R16, .string R17] 9)) := ⟨_, rfl⟩
  have bV32 : Below V31.heap.size V31 V32 := by subst hV32; exact ((Below.refl V31.heap.size V31).alloc (by first | exact Nat.le_refl _ | (simp; done) | (simp; omega)) _)
  replace F1 := hide ((unhide F1).keep (Keep.of_below bV32))
  replace F2 := hide ((unhide F2).keep (Keep.of_below bV32))
  replace F3 := hide ((unhide F3).keep (Keep.of_below bV32))
  replace F4 := hide ((unhide F4).keep (Keep.of_below bV32))
  replace F5 := hide ((unhide F5).keep (Keep.of_below bV32))
  replace F6 := hide ((unhide F6).keep (Keep.of_below bV32))
  replace F7 := hide ((unhide F7).keep (Keep.of_below bV32))
  replace F8 := hide ((unhide F8).keep (Keep.of_below bV32))
  replace F9 := hide ((unhide F9).keep (Keep.of_below bV32))
  replace F10 := hide ((unhide F10).keep (Keep.of_below bV32))
  replace F11 := hide ((unhide F11).keep (Keep.of_below bV32))
  replace F12 := hide ((unhide F12).keep (Keep.of_below bV32))
  replace F13 := hide ((unhide F13).keep (Keep.of_below bV32))
  replace F14 := hide ((unhide F14).keep (Keep.of_below bV32))
  replace F15 := hide ((unhide F15).keep (Keep.of_below bV32))
  replace F16 := hide ((unhide F16).keep (Keep.of_below bV32))
  replace F17 := hide ((unhide F17).keep (Keep.of_below bV32))
  replace F18 := hide ((unhide F18).keep (Keep.of_below bV32))
  replace F19 := hide ((unhide F19).keep (Keep.of_below bV32))
  replace F20 := hide ((unhide F20).keep (Keep.of_below bV32))
  replace F21 := hide ((unhide F21).keep (Keep.of_below bV32))
  replace F22 := hide ((unhide F22).keep (Keep.of_below bV32))
  have F23 : Hid (Strs [] V32 (.slice (some ⟨V31.heap.size, 0, none⟩) 2 2) [R16, R17]) := hide (by subst hV32; exact strsLit (by repeat (first | exact blk_top _ _ (by simp; done) | refine blk_under _ (by first | (simp; done) | (simp; omega)) ?_)) (by simp) rfl (by decide) rfl rfl)
  replace HBcur := hide ((unhide HBcur).trans (bV32.mono (unhide HBcur).size))
  rw [← hV32]
  clear hV32 bV32
  refine (node_ex ⟨#[107, 105, 110, 100]⟩ true ⟨#[]⟩ ⟨#[110, 111, 45, 114, 117, 108, 101]⟩ (unhide F22) (noStrs _) (noGroups _ _) (noStrs _) (noStrs _) (noStrs _) (unhide F23) (by decide) (by rw [nodeB_sz]; simp only [List.map_cons, List.map_nil, z16, z17]; decide +kernel)).mono ?_
  rintro e V33 ⟨R18, hR18, rfl, bV33⟩
  have z18 : R18.size = 263 := by rw [hR18, nodeB_sz]; simp only [List.map_cons, List.map_nil, z16, z17]; decide +kernel
  replace F1 := hide ((unhide F1).keep (Keep.of_below bV33))
  replace F2 := hide ((unhide F2).keep (Keep.of_below bV33))
  replace F3 := hide ((unhide F3).keep (Keep.of_below bV33))
  replace F4 := hide ((unhide F4).keep (Keep.of_below bV33))
  replace F5 := hide ((unhide F5).keep (Keep.of_below bV33))
  replace F6 := hide ((unhide F6).keep (Keep.of_below bV33))
  replace F7 := hide ((unhide F7).keep (Keep.of_below bV33))
  replace F8 := hide ((unhide F8).keep (Keep.of_below bV33))
  replace F9 := hide ((unhide F9).keep (Keep.of_below bV33))
  replace F10 := hide ((unhide F10).keep (Keep.of_below bV33))
  replace F11 := hide ((unhide F11).keep (Keep.of_below bV33))
  replace F12 := hide ((unhide F12).keep (Keep.of_below bV33))
  replace F13 := hide ((unhide F13).keep (Keep.of_below bV33))
  replace F14 := hide ((unhide F14).keep (Keep.of_below bV33))
  replace F15 := hide ((unhide F15).keep (Keep.of_below bV33))
  replace F16 := hide ((unhide F16).keep (Keep.of_below bV33))
  replace F17 := hide ((unhide F17).keep (Keep.of_below bV33))
  replace F18 := hide ((unhide F18).keep (Keep.of_below bV33))
  replace F19 := hide ((unhide F19).keep (Keep.of_below bV33))
  replace F20 := hide ((unhide F20).keep (Keep.of_below bV33))
  replace F21 := hide ((unhide F21).keep (Keep.of_below bV33))
  replace F22 := hide ((unhide F22).keep (Keep.of_below bV33))
  replace F23 := hide ((unhide F23).keep (Keep.of_below bV33))
  replace HBcur := hide ((unhide HBcur).trans (bV33.mono (unhide HBcur).size))
  replace hR18 := hide hR18
  clear bV33
  go_wp2_with fail
  obtain ⟨V34, hV34⟩ : ∃ V, V = (((V33.alloc (.cells #[.string ⟨#[97, 114, 116, 105, 99, 108, 101]⟩] 9)).alloc (.cells #[.string ⟨#[105, 110, 100, 101, 112, 101, 110, 100, 101, 110, 116]⟩] 9)).alloc (.cells #[.string ⟨#[105, 110, 100, 101, 112, 101, 110, 100, 101, 110, 116]⟩, .string ⟨#[97, 116, 116, 101, 110, 100, 105, 110, 103]⟩] 9)) := ⟨_, rfl⟩
  have bV34 : Below V33.heap.size V33 V34 := by subst hV34; exact ((((Below.refl V33.heap.size V33).alloc (by first | exact Nat.le_refl _ | (simp; done) | (simp; omega)) _).alloc (by first | exact Nat.le_refl _ | (simp; done) | (simp; omega)) _).alloc (by first | exact Nat.le_refl _ | (simp; done) | (simp; omega)) _)
  replace F1 := hide ((unhide F1).keep (Keep.of_below bV34))
  replace F2 := hide ((unhide F2).keep (Keep.of_below bV34))
  replace F3 := hide ((unhide F3).keep (Keep.of_below bV34))
  replace F4 := hide ((unhide F4).keep (Keep.of_below bV34))
  replace F5 := hide ((unhide F5).keep (Keep.of_below bV34))
  replace F6 := hide ((unhide F6).keep (Keep.of_below bV34))
  replace F7 := hide ((unhide F7).keep (Keep.of_below bV34))
  replace F8 := hide ((unhide F8).keep (Keep.of_below bV34))
  replace F9 := hide ((unhide F9).keep (Keep.of_below bV34))
  replace F10 := hide ((unhide F10).keep (Keep.of_below bV34))
  replace F11 := hide ((unhide F11).keep (Keep.of_below bV34))
  replace F12 := hide ((unhide F12).keep (Keep.of_below bV34))
  replace F13 := hide ((unhide F13).keep (Keep.of_below bV34))
  replace F14 := hide ((unhide F14).keep (Keep.of_below bV34))
  replace F15 := hide ((unhide F15).keep (Keep.of_below bV34))
  replace F16 := hide ((unhide F16).keep (Keep.of_below bV34))
  replace F17 := hide ((unhide F17).keep (Keep.of_below bV34))
  replace F18 := hide ((unhide F18).keep (Keep.of_below bV34))
  replace F19 := hide ((unhide F19).keep (Keep.of_below bV34))
  replace F20 := hide ((unhide F20).keep (Keep.of_below bV34))
  replace F21 := hide ((unhide F21).keep (Keep.of_below bV34))
  replace F22 := hide ((unhide F22).keep (Keep.of_below bV34))
  replace F23 := hide ((unhide F23).keep (Keep.of_below bV34))
  have F24 : Hid (Strs [] V34 (.slice (some ⟨V33.heap.size, 0, none⟩) 1 1) [⟨#[97, 114, 116, 105, 99, 108, 101]⟩]) := hide (by subst hV34; exact strsLit (by repeat (first | exact blk_top _ _ (by simp; done) | refine blk_under _ (by first | (simp; done) | (simp; omega)) ?_)) (by simp) rfl (by decide) rfl rfl)
  have F25 : Hid (Strs [] V34 (.slice (some ⟨V33.heap.size + 1, 0, none⟩) 1 1) [⟨#[105, 110, 100, 101, 112, 101, 110, 100, 101, 110, 116]⟩]) := hide (by subst hV34; exact strsLit (by repeat (first | exact blk_top _ _ (by simp; done) | refine blk_under _ (by first | (simp; done) | (simp; omega)) ?_)) (by simp) rfl (by decide) rfl rfl)
  have F26 : Hid (Strs [] V34 (.slice (some ⟨V33.heap.size + 2, 0, none⟩) 2 2) [⟨#[105, 110, 100, 101, 112, 101, 110, 100, 101, 110, 116]⟩, ⟨#[97, 116, 116, 101, 110, 100, 105, 110, 103]⟩]) := hide (by subst hV34; exact strsLit (by repeat (first | exact blk_top _ _ (by simp; done) | refine blk_under _ (by first | (simp; done) | (simp; omega)) ?_)) (by simp) rfl (by decide) rfl rfl)
  replace HBcur := hide ((unhide HBcur).trans (bV34.mono (unhide HBcur).size))
  rw [← hV34]
  clear hV34 bV34
  refine (count_ex ⟨#[105, 110, 100, 101, 112, 101, 110, 100, 101, 110, 116]⟩ ⟨#[105, 110, 100, 101, 112, 101, 110, 100, 101, 110, 116, 32, 100, 105, 114, 101, 99, 116, 111, 114, 115]⟩ 1 (by decide) (by rw [encCount_sz]; decide +kernel) _).mono ?_
  rintro e V35 ⟨R19, hR19, rfl, bV35⟩
  have z19 : R19.size = 41 := by rw [hR19, encCount_sz]; decide +kernel
  replace F1 := hide ((unhide F1).keep (Keep.of_below bV35))
  replace F2 := hide ((unhide F2).keep (Keep.of_below bV35))
  replace F3 := hide ((unhide F3).keep (Keep.of_below bV35))
  replace F4 := hide ((unhide F4).keep (Keep.of_below bV35))
  replace F5 := hide ((unhide F5).keep (Keep.of_below bV35))
  replace F6 := hide ((unhide F6).keep (Keep.of_below bV35))
  replace F7 := hide ((unhide F7).keep (Keep.of_below bV35))
  replace F8 := hide ((unhide F8).keep (Keep.of_below bV35))
  replace F9 := hide ((unhide F9).keep (Keep.of_below bV35))
  replace F10 := hide ((unhide F10).keep (Keep.of_below bV35))
  replace F11 := hide ((unhide F11).keep (Keep.of_below bV35))
  replace F12 := hide ((unhide F12).keep (Keep.of_below bV35))
  replace F13 := hide ((unhide F13).keep (Keep.of_below bV35))
  replace F14 := hide ((unhide F14).keep (Keep.of_below bV35))
  replace F15 := hide ((unhide F15).keep (Keep.of_below bV35))
  replace F16 := hide ((unhide F16).keep (Keep.of_below bV35))
  replace F17 := hide ((unhide F17).keep (Keep.of_below bV35))
  replace F18 := hide ((unhide F18).keep (Keep.of_below bV35))
  replace F19 := hide ((unhide F19).keep (Keep.of_below bV35))
  replace F20 := hide ((unhide F20).keep (Keep.of_below bV35))
  replace F21 := hide ((unhide F21).keep (Keep.of_below bV35))
  replace F22 := hide ((unhide F22).keep (Keep.of_below bV35))
  replace F23 := hide ((unhide F23).keep (Keep.of_below bV35))
  replace F24 := hide ((unhide F24).keep (Keep.of_below bV35))
  replace F25 := hide ((unhide F25).keep (Keep.of_below bV35))
  replace F26 := hide ((unhide F26).keep (Keep.of_below bV35))
  replace HBcur := hide ((unhide HBcur).trans (bV35.mono (unhide HBcur).size))
  replace hR19 := hide hR19
  clear bV35
  go_wp2_with fail
  obtain ⟨V36, hV36⟩ : ∃ V, V = ((V35.alloc (.cells #[.string R19] 9)).alloc (.cells #[.string ⟨#[97, 116, 116, 101, 110, 100, 105, 110, 103]⟩] 9)) := ⟨_, rfl⟩
  have bV36 : Below V35.heap.size V35 V36 := by subst hV36; exact (((Below.refl V35.heap.size V35).alloc (by first | exact Nat.le_refl _ | (simp; done) | (simp; omega)) _).alloc (by first | exact Nat.le_refl _ | (simp; done) | (simp; omega)) _)
  replace F1 := hide ((unhide F1).keep (Keep.of_below bV36))
  replace F2 := hide ((unhide F2).keep (Keep.of_below bV36))
  replace F3 := hide ((unhide F3).keep (Keep.of_below bV36))
  replace F4 := hide ((unhide F4).keep (Keep.of_below bV36))
  replace F5 := hide ((unhide F5).keep (Keep.of_below bV36))
  replace F6 := hide ((unhide F6).keep (Keep.of_below bV36))
  replace F7 := hide ((unhide F7).keep (Keep.of_below bV36))
  replace F8 := hide ((unhide F8).keep (Keep.of_below bV36))
  replace F9 := hide ((unhide F9).keep (Keep.of_below bV36))
  replace F10 := hide ((unhide F10).keep (Keep.of_below bV36))
  replace F11 := hide ((unhide F11).keep (Keep.of_below bV36))
  replace F12 := hide ((unhide F12).keep (Keep.of_below bV36))
  replace F13 := hide ((unhide F13).keep (Keep.of_below bV36))
  replace F14 := hide ((unhide F14).keep (Keep.of_below bV36))
  replace F15 := hide ((unhide F15).keep (Keep.of_below bV36))
  replace F16 := hide ((unhide F16).keep (Keep.of_below bV36))
  replace F17 := hide ((unhide F17).keep (Keep.of_below bV36))
  replace F18 := hide ((unhide F18).keep (Keep.of_below bV36))
  replace F19 := hide ((unhide F19).keep (Keep.of_below bV36))
  replace F20 := hide ((unhide F20).keep (Keep.of_below bV36))
  replace F21 := hide ((unhide F21).keep (Keep.of_below bV36))
  replace F22 := hide ((unhide F22).keep (Keep.of_below bV36))
  replace F23 := hide ((unhide F23).keep (Keep.of_below bV36))
  replace F24 := hide ((unhide F24).keep (Keep.of_below bV36))
  replace F25 := hide ((unhide F25).keep (Keep.of_below bV36))
  replace F26 := hide ((unhide F26).keep (Keep.of_below bV36))
  have F27 : Hid (Strs [] V36 (.slice (some ⟨V35.heap.size, 0, none⟩) 1 1) [R19]) := hide (by subst hV36; exact strsLit (by repeat (first | exact blk_top _ _ (by simp; done) | refine blk_under _ (by first | (simp; done) | (simp; omega)) ?_)) (by simp) rfl (by decide) rfl rfl)
  have F28 : Hid (Strs [] V36 (.slice (some ⟨V35.heap.size + 1, 0, none⟩) 1 1) [⟨#[97, 116, 116, 101, 110, 100, 105, 110, 103]⟩]) := hide (by subst hV36; exact strsLit (by repeat (first | exact blk_top _ _ (by simp; done) | refine blk_under _ (by first | (simp; done) | (simp; omega)) ?_)) (by simp) rfl (by decide) rfl rfl)
  replace HBcur := hide ((unhide HBcur).trans (bV36.mono (unhide HBcur).size))
  rw [← hV36]
  clear hV36 bV36
  refine (thr_ex ⟨#[97, 116, 116, 101, 110, 100, 105, 110, 103]⟩ ⟨#[]⟩ (unhide F2) (unhide F28) (by rw [nodeB_sz]; decide +kernel)).mono ?_
  rintro e V37 ⟨R20, hR20, rfl, bV37⟩
  have z20 : R20.size = 70 := by rw [hR20, nodeB_sz]; decide +kernel
  replace F1 := hide ((unhide F1).keep (Keep.of_below bV37))
  replace F2 := hide ((unhide F2).keep (Keep.of_below bV37))
  replace F3 := hide ((unhide F3).keep (Keep.of_below bV37))
  replace F4 := hide ((unhide F4).keep (Keep.of_below bV37))
  replace F5 := hide ((unhide F5).keep (Keep.of_below bV37))
  replace F6 := hide ((unhide F6).keep (Keep.of_below bV37))
  replace F7 := hide ((unhide F7).keep (Keep.of_below bV37))
  replace F8 := hide ((unhide F8).keep (Keep.of_below bV37))
  replace F9 := hide ((unhide F9).keep (Keep.of_below bV37))
  replace F10 := hide ((unhide F10).keep (Keep.of_below bV37))
  replace F11 := hide ((unhide F11).keep (Keep.of_below bV37))
  replace F12 := hide ((unhide F12).keep (Keep.of_below bV37))
  replace F13 := hide ((unhide F13).keep (Keep.of_below bV37))
  replace F14 := hide ((unhide F14).keep (Keep.of_below bV37))
  replace F15 := hide ((unhide F15).keep (Keep.of_below bV37))
  replace F16 := hide ((unhide F16).keep (Keep.of_below bV37))
  replace F17 := hide ((unhide F17).keep (Keep.of_below bV37))
  replace F18 := hide ((unhide F18).keep (Keep.of_below bV37))
  replace F19 := hide ((unhide F19).keep (Keep.of_below bV37))
  replace F20 := hide ((unhide F20).keep (Keep.of_below bV37))
  replace F21 := hide ((unhide F21).keep (Keep.of_below bV37))
  replace F22 := hide ((unhide F22).keep (Keep.of_below bV37))
  replace F23 := hide ((unhide F23).keep (Keep.of_below bV37))
  replace F24 := hide ((unhide F24).keep (Keep.of_below bV37))
  replace F25 := hide ((unhide F25).keep (Keep.of_below bV37))
  replace F26 := hide ((unhide F26).keep (Keep.of_below bV37))
  replace F27 := hide ((unhide F27).keep (Keep.of_below bV37))
  replace F28 := hide ((unhide F28).keep (Keep.of_below bV37))
  replace HBcur := hide ((unhide HBcur).trans (bV37.mono (unhide HBcur).size))
  replace hR20 := hide hR20
  clear bV37
  go_wp2_with fail
  obtain ⟨V38, hV38⟩ : ∃ V, V = (V37.alloc (.cells #[.string R20] 9)) := ⟨_, rfl⟩
  have bV38 : Below V37.heap.size V37 V38 := by subst hV38; exact ((Below.refl V37.heap.size V37).alloc (by first | exact Nat.le_refl _ | (simp; done) | (simp; omega)) _)
  replace F1 := hide ((unhide F1).keep (Keep.of_below bV38))
  replace F2 := hide ((unhide F2).keep (Keep.of_below bV38))
  replace F3 := hide ((unhide F3).keep (Keep.of_below bV38))
  replace F4 := hide ((unhide F4).keep (Keep.of_below bV38))
  replace F5 := hide ((unhide F5).keep (Keep.of_below bV38))
  replace F6 := hide ((unhide F6).keep (Keep.of_below bV38))
  replace F7 := hide ((unhide F7).keep (Keep.of_below bV38))
  replace F8 := hide ((unhide F8).keep (Keep.of_below bV38))
  replace F9 := hide ((unhide F9).keep (Keep.of_below bV38))
  replace F10 := hide ((unhide F10).keep (Keep.of_below bV38))
  replace F11 := hide ((unhide F11).keep (Keep.of_below bV38))
  replace F12 := hide ((unhide F12).keep (Keep.of_below bV38))
  replace F13 := hide ((unhide F13).keep (Keep.of_below bV38))
  replace F14 := hide ((unhide F14).keep (Keep.of_below bV38))
  replace F15 := hide ((unhide F15).keep (Keep.of_below bV38))
  replace F16 := hide ((unhide F16).keep (Keep.of_below bV38))
  replace F17 := hide ((unhide F17).keep (Keep.of_below bV38))
  replace F18 := hide ((unhide F18).keep (Keep.of_below bV38))
  replace F19 := hide ((unhide F19).keep (Keep.of_below bV38))
  replace F20 := hide ((unhide F20).keep (Keep.of_below bV38))
  replace F21 := hide ((unhide F21).keep (Keep.of_below bV38))
  replace F22 := hide ((unhide F22).keep (Keep.of_below bV38))
  replace F23 := hide ((unhide F23).keep (Keep.of_below bV38))
  replace F24 := hide ((unhide F24).keep (Keep.of_below bV38))
  replace F25 := hide ((unhide F25).keep (Keep.of_below bV38))
  replace F26 := hide ((unhide F26).keep (Keep.of_below bV38))
  replace F27 := hide ((unhide F27).keep (Keep.of_below bV38))
  replace F28 := hide ((unhide F28).keep (Keep.of_below bV38))
  have F29 : Hid (Strs [] V38 (.slice (some ⟨V37.heap.size, 0, none⟩) 1 1) [R20]) := hide (by subst hV38; exact strsLit (by repeat (first | exact blk_top _ _ (by simp; done) | refine blk_under _ (by first | (simp; done) | (simp; omega)) ?_)) (by simp) rfl (by decide) rfl rfl)
  replace HBcur := hide ((unhide HBcur).trans (bV38.mono (unhide HBcur).size))
  rw [← hV38]
  clear hV38 bV38
  refine (node_ex ⟨#[100, 101, 102, 101, 114, 114, 97, 108]⟩ false ⟨#[]⟩ ⟨#[114, 101, 102, 117, 115, 101]⟩ (unhide F24) (unhide F25) (noGroups _ _) (unhide F26) (unhide F27) (noStrs _) (unhide F29) (by decide) (by rw [nodeB_sz]; simp only [List.map_cons, List.map_nil, z19, z20]; decide +kernel)).mono ?_
  rintro e V39 ⟨R21, hR21, rfl, bV39⟩
  have z21 : R21.size = 202 := by rw [hR21, nodeB_sz]; simp only [List.map_cons, List.map_nil, z19, z20]; decide +kernel
  replace F1 := hide ((unhide F1).keep (Keep.of_below bV39))
  replace F2 := hide ((unhide F2).keep (Keep.of_below bV39))
  replace F3 := hide ((unhide F3).keep (Keep.of_below bV39))
  replace F4 := hide ((unhide F4).keep (Keep.of_below bV39))
  replace F5 := hide ((unhide F5).keep (Keep.of_below bV39))
  replace F6 := hide ((unhide F6).keep (Keep.of_below bV39))
  replace F7 := hide ((unhide F7).keep (Keep.of_below bV39))
  replace F8 := hide ((unhide F8).keep (Keep.of_below bV39))
  replace F9 := hide ((unhide F9).keep (Keep.of_below bV39))
  replace F10 := hide ((unhide F10).keep (Keep.of_below bV39))
  replace F11 := hide ((unhide F11).keep (Keep.of_below bV39))
  replace F12 := hide ((unhide F12).keep (Keep.of_below bV39))
  replace F13 := hide ((unhide F13).keep (Keep.of_below bV39))
  replace F14 := hide ((unhide F14).keep (Keep.of_below bV39))
  replace F15 := hide ((unhide F15).keep (Keep.of_below bV39))
  replace F16 := hide ((unhide F16).keep (Keep.of_below bV39))
  replace F17 := hide ((unhide F17).keep (Keep.of_below bV39))
  replace F18 := hide ((unhide F18).keep (Keep.of_below bV39))
  replace F19 := hide ((unhide F19).keep (Keep.of_below bV39))
  replace F20 := hide ((unhide F20).keep (Keep.of_below bV39))
  replace F21 := hide ((unhide F21).keep (Keep.of_below bV39))
  replace F22 := hide ((unhide F22).keep (Keep.of_below bV39))
  replace F23 := hide ((unhide F23).keep (Keep.of_below bV39))
  replace F24 := hide ((unhide F24).keep (Keep.of_below bV39))
  replace F25 := hide ((unhide F25).keep (Keep.of_below bV39))
  replace F26 := hide ((unhide F26).keep (Keep.of_below bV39))
  replace F27 := hide ((unhide F27).keep (Keep.of_below bV39))
  replace F28 := hide ((unhide F28).keep (Keep.of_below bV39))
  replace F29 := hide ((unhide F29).keep (Keep.of_below bV39))
  replace HBcur := hide ((unhide HBcur).trans (bV39.mono (unhide HBcur).size))
  replace hR21 := hide hR21
  clear bV39
  go_wp2_with fail
  refine (thr_ex ⟨#[113, 117, 111, 114, 117, 109]⟩ ⟨#[97, 32, 98, 111, 97, 114, 100, 39, 115, 32, 114, 117, 108, 101, 98, 111, 111, 107]⟩ (unhide F1) (unhide F3) (by rw [nodeB_sz]; decide +kernel)).mono ?_
  rintro e V40 ⟨R22, hR22, rfl, bV40⟩
  have z22 : R22.size = 128 := by rw [hR22, nodeB_sz]; decide +kernel
  replace F1 := hide ((unhide F1).keep (Keep.of_below bV40))
  replace F2 := hide ((unhide F2).keep (Keep.of_below bV40))
  replace F3 := hide ((unhide F3).keep (Keep.of_below bV40))
  replace F4 := hide ((unhide F4).keep (Keep.of_below bV40))
  replace F5 := hide ((unhide F5).keep (Keep.of_below bV40))
  replace F6 := hide ((unhide F6).keep (Keep.of_below bV40))
  replace F7 := hide ((unhide F7).keep (Keep.of_below bV40))
  replace F8 := hide ((unhide F8).keep (Keep.of_below bV40))
  replace F9 := hide ((unhide F9).keep (Keep.of_below bV40))
  replace F10 := hide ((unhide F10).keep (Keep.of_below bV40))
  replace F11 := hide ((unhide F11).keep (Keep.of_below bV40))
  replace F12 := hide ((unhide F12).keep (Keep.of_below bV40))
  replace F13 := hide ((unhide F13).keep (Keep.of_below bV40))
  replace F14 := hide ((unhide F14).keep (Keep.of_below bV40))
  replace F15 := hide ((unhide F15).keep (Keep.of_below bV40))
  replace F16 := hide ((unhide F16).keep (Keep.of_below bV40))
  replace F17 := hide ((unhide F17).keep (Keep.of_below bV40))
  replace F18 := hide ((unhide F18).keep (Keep.of_below bV40))
  replace F19 := hide ((unhide F19).keep (Keep.of_below bV40))
  replace F20 := hide ((unhide F20).keep (Keep.of_below bV40))
  replace F21 := hide ((unhide F21).keep (Keep.of_below bV40))
  replace F22 := hide ((unhide F22).keep (Keep.of_below bV40))
  replace F23 := hide ((unhide F23).keep (Keep.of_below bV40))
  replace F24 := hide ((unhide F24).keep (Keep.of_below bV40))
  replace F25 := hide ((unhide F25).keep (Keep.of_below bV40))
  replace F26 := hide ((unhide F26).keep (Keep.of_below bV40))
  replace F27 := hide ((unhide F27).keep (Keep.of_below bV40))
  replace F28 := hide ((unhide F28).keep (Keep.of_below bV40))
  replace F29 := hide ((unhide F29).keep (Keep.of_below bV40))
  replace HBcur := hide ((unhide HBcur).trans (bV40.mono (unhide HBcur).size))
  replace hR22 := hide hR22
  clear bV40
  go_wp2_with fail
  refine (thr_ex ⟨#[112, 97, 115, 115]⟩ ⟨#[101, 118, 101, 114, 121, 32, 114, 117, 108, 101, 98, 111, 111, 107]⟩ (unhide F1) (unhide F3) (by rw [nodeB_sz]; decide +kernel)).mono ?_
  rintro e V41 ⟨R23, hR23, rfl, bV41⟩
  have z23 : R23.size = 122 := by rw [hR23, nodeB_sz]; decide +kernel
  replace F1 := hide ((unhide F1).keep (Keep.of_below bV41))
  replace F2 := hide ((unhide F2).keep (Keep.of_below bV41))
  replace F3 := hide ((unhide F3).keep (Keep.of_below bV41))
  replace F4 := hide ((unhide F4).keep (Keep.of_below bV41))
  replace F5 := hide ((unhide F5).keep (Keep.of_below bV41))
  replace F6 := hide ((unhide F6).keep (Keep.of_below bV41))
  replace F7 := hide ((unhide F7).keep (Keep.of_below bV41))
  replace F8 := hide ((unhide F8).keep (Keep.of_below bV41))
  replace F9 := hide ((unhide F9).keep (Keep.of_below bV41))
  replace F10 := hide ((unhide F10).keep (Keep.of_below bV41))
  replace F11 := hide ((unhide F11).keep (Keep.of_below bV41))
  replace F12 := hide ((unhide F12).keep (Keep.of_below bV41))
  replace F13 := hide ((unhide F13).keep (Keep.of_below bV41))
  replace F14 := hide ((unhide F14).keep (Keep.of_below bV41))
  replace F15 := hide ((unhide F15).keep (Keep.of_below bV41))
  replace F16 := hide ((unhide F16).keep (Keep.of_below bV41))
  replace F17 := hide ((unhide F17).keep (Keep.of_below bV41))
  replace F18 := hide ((unhide F18).keep (Keep.of_below bV41))
  replace F19 := hide ((unhide F19).keep (Keep.of_below bV41))
  replace F20 := hide ((unhide F20).keep (Keep.of_below bV41))
  replace F21 := hide ((unhide F21).keep (Keep.of_below bV41))
  replace F22 := hide ((unhide F22).keep (Keep.of_below bV41))
  replace F23 := hide ((unhide F23).keep (Keep.of_below bV41))
  replace F24 := hide ((unhide F24).keep (Keep.of_below bV41))
  replace F25 := hide ((unhide F25).keep (Keep.of_below bV41))
  replace F26 := hide ((unhide F26).keep (Keep.of_below bV41))
  replace F27 := hide ((unhide F27).keep (Keep.of_below bV41))
  replace F28 := hide ((unhide F28).keep (Keep.of_below bV41))
  replace F29 := hide ((unhide F29).keep (Keep.of_below bV41))
  replace HBcur := hide ((unhide HBcur).trans (bV41.mono (unhide HBcur).size))
  replace hR23 := hide hR23
  clear bV41
  go_wp2_with fail
  refine (thr_ex ⟨#[117, 110, 108, 105, 115, 116, 101, 100]⟩ ⟨#[]⟩ (unhide F1) (unhide F3) (by rw [nodeB_sz]; decide +kernel)).mono ?_
  rintro e V42 ⟨R24, hR24, rfl, bV42⟩
  have z24 : R24.size = 111 := by rw [hR24, nodeB_sz]; decide +kernel
  replace F1 := hide ((unhide F1).keep (Keep.of_below bV42))
  replace F2 := hide ((unhide F2).keep (Keep.of_below bV42))
  replace F3 := hide ((unhide F3).keep (Keep.of_below bV42))
  replace F4 := hide ((unhide F4).keep (Keep.of_below bV42))
  replace F5 := hide ((unhide F5).keep (Keep.of_below bV42))
  replace F6 := hide ((unhide F6).keep (Keep.of_below bV42))
  replace F7 := hide ((unhide F7).keep (Keep.of_below bV42))
  replace F8 := hide ((unhide F8).keep (Keep.of_below bV42))
  replace F9 := hide ((unhide F9).keep (Keep.of_below bV42))
  replace F10 := hide ((unhide F10).keep (Keep.of_below bV42))
  replace F11 := hide ((unhide F11).keep (Keep.of_below bV42))
  replace F12 := hide ((unhide F12).keep (Keep.of_below bV42))
  replace F13 := hide ((unhide F13).keep (Keep.of_below bV42))
  replace F14 := hide ((unhide F14).keep (Keep.of_below bV42))
  replace F15 := hide ((unhide F15).keep (Keep.of_below bV42))
  replace F16 := hide ((unhide F16).keep (Keep.of_below bV42))
  replace F17 := hide ((unhide F17).keep (Keep.of_below bV42))
  replace F18 := hide ((unhide F18).keep (Keep.of_below bV42))
  replace F19 := hide ((unhide F19).keep (Keep.of_below bV42))
  replace F20 := hide ((unhide F20).keep (Keep.of_below bV42))
  replace F21 := hide ((unhide F21).keep (Keep.of_below bV42))
  replace F22 := hide ((unhide F22).keep (Keep.of_below bV42))
  replace F23 := hide ((unhide F23).keep (Keep.of_below bV42))
  replace F24 := hide ((unhide F24).keep (Keep.of_below bV42))
  replace F25 := hide ((unhide F25).keep (Keep.of_below bV42))
  replace F26 := hide ((unhide F26).keep (Keep.of_below bV42))
  replace F27 := hide ((unhide F27).keep (Keep.of_below bV42))
  replace F28 := hide ((unhide F28).keep (Keep.of_below bV42))
  replace F29 := hide ((unhide F29).keep (Keep.of_below bV42))
  replace HBcur := hide ((unhide HBcur).trans (bV42.mono (unhide HBcur).size))
  replace hR24 := hide hR24
  clear bV42
  go_wp2_with fail
  obtain ⟨V43, hV43⟩ : ∃ V, V = (V42.alloc (.cells #[.string ⟨#[114, 101, 118, 111, 99, 97, 98, 108, 101, 95, 97, 114, 116, 105, 99, 108, 101]⟩] 9)) := ⟨_, rfl⟩
  have bV43 : Below V42.heap.size V42 V43 := by subst hV43; exact ((Below.refl V42.heap.size V42).alloc (by first | exact Nat.le_refl _ | (simp; done) | (simp; omega)) _)
  replace F1 := hide ((unhide F1).keep (Keep.of_below bV43))
  replace F2 := hide ((unhide F2).keep (Keep.of_below bV43))
  replace F3 := hide ((unhide F3).keep (Keep.of_below bV43))
  replace F4 := hide ((unhide F4).keep (Keep.of_below bV43))
  replace F5 := hide ((unhide F5).keep (Keep.of_below bV43))
  replace F6 := hide ((unhide F6).keep (Keep.of_below bV43))
  replace F7 := hide ((unhide F7).keep (Keep.of_below bV43))
  replace F8 := hide ((unhide F8).keep (Keep.of_below bV43))
  replace F9 := hide ((unhide F9).keep (Keep.of_below bV43))
  replace F10 := hide ((unhide F10).keep (Keep.of_below bV43))
  replace F11 := hide ((unhide F11).keep (Keep.of_below bV43))
  replace F12 := hide ((unhide F12).keep (Keep.of_below bV43))
  replace F13 := hide ((unhide F13).keep (Keep.of_below bV43))
  replace F14 := hide ((unhide F14).keep (Keep.of_below bV43))
  replace F15 := hide ((unhide F15).keep (Keep.of_below bV43))
  replace F16 := hide ((unhide F16).keep (Keep.of_below bV43))
  replace F17 := hide ((unhide F17).keep (Keep.of_below bV43))
  replace F18 := hide ((unhide F18).keep (Keep.of_below bV43))
  replace F19 := hide ((unhide F19).keep (Keep.of_below bV43))
  replace F20 := hide ((unhide F20).keep (Keep.of_below bV43))
  replace F21 := hide ((unhide F21).keep (Keep.of_below bV43))
  replace F22 := hide ((unhide F22).keep (Keep.of_below bV43))
  replace F23 := hide ((unhide F23).keep (Keep.of_below bV43))
  replace F24 := hide ((unhide F24).keep (Keep.of_below bV43))
  replace F25 := hide ((unhide F25).keep (Keep.of_below bV43))
  replace F26 := hide ((unhide F26).keep (Keep.of_below bV43))
  replace F27 := hide ((unhide F27).keep (Keep.of_below bV43))
  replace F28 := hide ((unhide F28).keep (Keep.of_below bV43))
  replace F29 := hide ((unhide F29).keep (Keep.of_below bV43))
  have F30 : Hid (Strs [] V43 (.slice (some ⟨V42.heap.size, 0, none⟩) 1 1) [⟨#[114, 101, 118, 111, 99, 97, 98, 108, 101, 95, 97, 114, 116, 105, 99, 108, 101]⟩]) := hide (by subst hV43; exact strsLit (by repeat (first | exact blk_top _ _ (by simp; done) | refine blk_under _ (by first | (simp; done) | (simp; omega)) ?_)) (by simp) rfl (by decide) rfl rfl)
  replace HBcur := hide ((unhide HBcur).trans (bV43.mono (unhide HBcur).size))
  rw [← hV43]
  clear hV43 bV43
  refine (node_ex ⟨#[99, 111, 110, 115, 101, 113, 117, 101, 110, 99, 101]⟩ false ⟨#[]⟩ ⟨#[114, 101, 102, 117, 115, 101]⟩ (unhide F30) (noStrs _) (noGroups _ _) (noStrs _) (noStrs _) (noStrs _) (noStrs _) (by decide) (by rw [nodeB_sz]; decide +kernel)).mono ?_
  rintro e V44 ⟨R25, hR25, rfl, bV44⟩
  have z25 : R25.size = 61 := by rw [hR25, nodeB_sz]; decide +kernel
  replace F1 := hide ((unhide F1).keep (Keep.of_below bV44))
  replace F2 := hide ((unhide F2).keep (Keep.of_below bV44))
  replace F3 := hide ((unhide F3).keep (Keep.of_below bV44))
  replace F4 := hide ((unhide F4).keep (Keep.of_below bV44))
  replace F5 := hide ((unhide F5).keep (Keep.of_below bV44))
  replace F6 := hide ((unhide F6).keep (Keep.of_below bV44))
  replace F7 := hide ((unhide F7).keep (Keep.of_below bV44))
  replace F8 := hide ((unhide F8).keep (Keep.of_below bV44))
  replace F9 := hide ((unhide F9).keep (Keep.of_below bV44))
  replace F10 := hide ((unhide F10).keep (Keep.of_below bV44))
  replace F11 := hide ((unhide F11).keep (Keep.of_below bV44))
  replace F12 := hide ((unhide F12).keep (Keep.of_below bV44))
  replace F13 := hide ((unhide F13).keep (Keep.of_below bV44))
  replace F14 := hide ((unhide F14).keep (Keep.of_below bV44))
  replace F15 := hide ((unhide F15).keep (Keep.of_below bV44))
  replace F16 := hide ((unhide F16).keep (Keep.of_below bV44))
  replace F17 := hide ((unhide F17).keep (Keep.of_below bV44))
  replace F18 := hide ((unhide F18).keep (Keep.of_below bV44))
  replace F19 := hide ((unhide F19).keep (Keep.of_below bV44))
  replace F20 := hide ((unhide F20).keep (Keep.of_below bV44))
  replace F21 := hide ((unhide F21).keep (Keep.of_below bV44))
  replace F22 := hide ((unhide F22).keep (Keep.of_below bV44))
  replace F23 := hide ((unhide F23).keep (Keep.of_below bV44))
  replace F24 := hide ((unhide F24).keep (Keep.of_below bV44))
  replace F25 := hide ((unhide F25).keep (Keep.of_below bV44))
  replace F26 := hide ((unhide F26).keep (Keep.of_below bV44))
  replace F27 := hide ((unhide F27).keep (Keep.of_below bV44))
  replace F28 := hide ((unhide F28).keep (Keep.of_below bV44))
  replace F29 := hide ((unhide F29).keep (Keep.of_below bV44))
  replace F30 := hide ((unhide F30).keep (Keep.of_below bV44))
  replace HBcur := hide ((unhide HBcur).trans (bV44.mono (unhide HBcur).size))
  replace hR25 := hide hR25
  clear bV44
  go_wp2_with fail
  obtain ⟨V45, hV45⟩ : ∃ V, V = ((V44.alloc (.cells #[.string R22, .string R23, .string R4, .string R6, .string R7, .string R15, .string R24, .string R25, .string R18, .string R21] 9)).alloc (.cells #[.string ⟨#[102, 111, 114, 109, 97, 116]⟩, .string ⟨#[98, 111, 100, 121]⟩, .string ⟨#[116, 105, 116, 108, 101]⟩, .string ⟨#[115, 104, 97, 114, 101, 104, 111, 108, 100, 101, 114, 115, 95, 109, 101, 101, 116, 105, 110, 103]⟩] 9)) := ⟨_, rfl⟩
  have bV45 : Below V44.heap.size V44 V45 := by subst hV45; exact (((Below.refl V44.heap.size V44).alloc (by first | exact Nat.le_refl _ | (simp; done) | (simp; omega)) _).alloc (by first | exact Nat.le_refl _ | (simp; done) | (simp; omega)) _)
  replace F1 := hide ((unhide F1).keep (Keep.of_below bV45))
  replace F2 := hide ((unhide F2).keep (Keep.of_below bV45))
  replace F3 := hide ((unhide F3).keep (Keep.of_below bV45))
  replace F4 := hide ((unhide F4).keep (Keep.of_below bV45))
  replace F5 := hide ((unhide F5).keep (Keep.of_below bV45))
  replace F6 := hide ((unhide F6).keep (Keep.of_below bV45))
  replace F7 := hide ((unhide F7).keep (Keep.of_below bV45))
  replace F8 := hide ((unhide F8).keep (Keep.of_below bV45))
  replace F9 := hide ((unhide F9).keep (Keep.of_below bV45))
  replace F10 := hide ((unhide F10).keep (Keep.of_below bV45))
  replace F11 := hide ((unhide F11).keep (Keep.of_below bV45))
  replace F12 := hide ((unhide F12).keep (Keep.of_below bV45))
  replace F13 := hide ((unhide F13).keep (Keep.of_below bV45))
  replace F14 := hide ((unhide F14).keep (Keep.of_below bV45))
  replace F15 := hide ((unhide F15).keep (Keep.of_below bV45))
  replace F16 := hide ((unhide F16).keep (Keep.of_below bV45))
  replace F17 := hide ((unhide F17).keep (Keep.of_below bV45))
  replace F18 := hide ((unhide F18).keep (Keep.of_below bV45))
  replace F19 := hide ((unhide F19).keep (Keep.of_below bV45))
  replace F20 := hide ((unhide F20).keep (Keep.of_below bV45))
  replace F21 := hide ((unhide F21).keep (Keep.of_below bV45))
  replace F22 := hide ((unhide F22).keep (Keep.of_below bV45))
  replace F23 := hide ((unhide F23).keep (Keep.of_below bV45))
  replace F24 := hide ((unhide F24).keep (Keep.of_below bV45))
  replace F25 := hide ((unhide F25).keep (Keep.of_below bV45))
  replace F26 := hide ((unhide F26).keep (Keep.of_below bV45))
  replace F27 := hide ((unhide F27).keep (Keep.of_below bV45))
  replace F28 := hide ((unhide F28).keep (Keep.of_below bV45))
  replace F29 := hide ((unhide F29).keep (Keep.of_below bV45))
  replace F30 := hide ((unhide F30).keep (Keep.of_below bV45))
  have F31 : Hid (Strs [] V45 (.slice (some ⟨V44.heap.size, 0, none⟩) 10 10) [R22, R23, R4, R6, R7, R15, R24, R25, R18, R21]) := hide (by subst hV45; exact strsLit (by repeat (first | exact blk_top _ _ (by simp; done) | refine blk_under _ (by first | (simp; done) | (simp; omega)) ?_)) (by simp) rfl (by decide) rfl rfl)
  have F32 : Hid (Strs [] V45 (.slice (some ⟨V44.heap.size + 1, 0, none⟩) 4 4) [⟨#[102, 111, 114, 109, 97, 116]⟩, ⟨#[98, 111, 100, 121]⟩, ⟨#[116, 105, 116, 108, 101]⟩, ⟨#[115, 104, 97, 114, 101, 104, 111, 108, 100, 101, 114, 115, 95, 109, 101, 101, 116, 105, 110, 103]⟩]) := hide (by subst hV45; exact strsLit (by repeat (first | exact blk_top _ _ (by simp; done) | refine blk_under _ (by first | (simp; done) | (simp; omega)) ?_)) (by simp) rfl (by decide) rfl rfl)
  replace HBcur := hide ((unhide HBcur).trans (bV45.mono (unhide HBcur).size))
  rw [← hV45]
  clear hV45 bV45
  refine (node_ex ⟨#[]⟩ false ⟨#[]⟩ ⟨#[]⟩ (unhide F32) (noStrs _) (noGroups _ _) (noStrs _) (noStrs _) (noStrs _) (unhide F31) (by decide) (by rw [nodeB_sz]; simp only [List.map_cons, List.map_nil, z15, z18, z21, z22, z23, z24, z25, z4, z6, z7]; decide +kernel)).mono ?_
  rintro e V46 ⟨R26, hR26, rfl, bV46⟩
  have z26 : R26.size = 2136 := by rw [hR26, nodeB_sz]; simp only [List.map_cons, List.map_nil, z15, z18, z21, z22, z23, z24, z25, z4, z6, z7]; decide +kernel
  replace F1 := hide ((unhide F1).keep (Keep.of_below bV46))
  replace F2 := hide ((unhide F2).keep (Keep.of_below bV46))
  replace F3 := hide ((unhide F3).keep (Keep.of_below bV46))
  replace F4 := hide ((unhide F4).keep (Keep.of_below bV46))
  replace F5 := hide ((unhide F5).keep (Keep.of_below bV46))
  replace F6 := hide ((unhide F6).keep (Keep.of_below bV46))
  replace F7 := hide ((unhide F7).keep (Keep.of_below bV46))
  replace F8 := hide ((unhide F8).keep (Keep.of_below bV46))
  replace F9 := hide ((unhide F9).keep (Keep.of_below bV46))
  replace F10 := hide ((unhide F10).keep (Keep.of_below bV46))
  replace F11 := hide ((unhide F11).keep (Keep.of_below bV46))
  replace F12 := hide ((unhide F12).keep (Keep.of_below bV46))
  replace F13 := hide ((unhide F13).keep (Keep.of_below bV46))
  replace F14 := hide ((unhide F14).keep (Keep.of_below bV46))
  replace F15 := hide ((unhide F15).keep (Keep.of_below bV46))
  replace F16 := hide ((unhide F16).keep (Keep.of_below bV46))
  replace F17 := hide ((unhide F17).keep (Keep.of_below bV46))
  replace F18 := hide ((unhide F18).keep (Keep.of_below bV46))
  replace F19 := hide ((unhide F19).keep (Keep.of_below bV46))
  replace F20 := hide ((unhide F20).keep (Keep.of_below bV46))
  replace F21 := hide ((unhide F21).keep (Keep.of_below bV46))
  replace F22 := hide ((unhide F22).keep (Keep.of_below bV46))
  replace F23 := hide ((unhide F23).keep (Keep.of_below bV46))
  replace F24 := hide ((unhide F24).keep (Keep.of_below bV46))
  replace F25 := hide ((unhide F25).keep (Keep.of_below bV46))
  replace F26 := hide ((unhide F26).keep (Keep.of_below bV46))
  replace F27 := hide ((unhide F27).keep (Keep.of_below bV46))
  replace F28 := hide ((unhide F28).keep (Keep.of_below bV46))
  replace F29 := hide ((unhide F29).keep (Keep.of_below bV46))
  replace F30 := hide ((unhide F30).keep (Keep.of_below bV46))
  replace F31 := hide ((unhide F31).keep (Keep.of_below bV46))
  replace F32 := hide ((unhide F32).keep (Keep.of_below bV46))
  replace HBcur := hide ((unhide HBcur).trans (bV46.mono (unhide HBcur).size))
  replace hR26 := hide hR26
  clear bV46
  go_wp2_with fail
  go_ret
  refine ⟨?_, unhide HBcur⟩
  refine congrArg (fun r => Ending.returned (Value.string r)) ?_
  clear HBcur F1 F2 F3 F4 F5 F6 F7 F8 F9 F10 F11 F12 F13 F14 F15 F16 F17 F18 F19 F20 F21 F22 F23 F24 F25 F26 F27 F28 F29 F30 F31 F32 z1 z2 z3 z4 z5 z6 z7 z8 z9 z10 z11 z12 z13 z14 z15 z16 z17 z18 z19 z20 z21 z22 z23 z24 z25 z26
  have E : R26 = enc 6 bdTree := by
    have q1 := unhide hR1
    clear hR1
    subst q1
    have q2 := unhide hR2
    clear hR2
    subst q2
    have q3 := unhide hR3
    clear hR3
    subst q3
    have q4 := unhide hR4
    clear hR4
    subst q4
    have q5 := unhide hR5
    clear hR5
    subst q5
    have q6 := unhide hR6
    clear hR6
    subst q6
    have q7 := unhide hR7
    clear hR7
    subst q7
    have q8 := unhide hR8
    clear hR8
    subst q8
    have q9 := unhide hR9
    clear hR9
    subst q9
    have q10 := unhide hR10
    clear hR10
    subst q10
    have q11 := unhide hR11
    clear hR11
    subst q11
    have q12 := unhide hR12
    clear hR12
    subst q12
    have q13 := unhide hR13
    clear hR13
    subst q13
    have q14 := unhide hR14
    clear hR14
    subst q14
    have q15 := unhide hR15
    clear hR15
    subst q15
    have q16 := unhide hR16
    clear hR16
    subst q16
    have q17 := unhide hR17
    clear hR17
    subst q17
    have q18 := unhide hR18
    clear hR18
    subst q18
    have q19 := unhide hR19
    clear hR19
    subst q19
    have q20 := unhide hR20
    clear hR20
    subst q20
    have q21 := unhide hR21
    clear hR21
    subst q21
    have q22 := unhide hR22
    clear hR22
    subst q22
    have q23 := unhide hR23
    clear hR23
    subst q23
    have q24 := unhide hR24
    clear hR24
    subst q24
    have q25 := unhide hR25
    clear hR25
    subst q25
    have q26 := unhide hR26
    clear hR26
    subst q26
    rfl
  exact E

end Go.Proofs.Qxb6601023a
