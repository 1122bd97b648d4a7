/-
  OWN WORK. zzNode_b1, zzThr_b1: what they answer.
-/
import Derived.Test.Qxb6601023aEnc
namespace Go.Proofs.Qxb6601023a
open Go Go.RowKit
set_option linter.unusedVariables false
set_option linter.unusedSimpArgs false

/-- A row of strings in memory. -/
def SR (w : World) (s : Value) (l : List ByteArray) : Prop := w.ownsRow 0 9 1 s l.length (l.map .string)
theorem SR.below {w w' : World} {s : Value} {l : List ByteArray} (h : SR w s l) (hb : Below w.heap.size w w') : SR w' s l := ownsRow_below h hb
theorem Strs.row {X : List Nat} {w : World} {s : Value} {l : List ByteArray} (h : Strs X w s l) : SR w s l := h.1
theorem SR.nil (w : World) : SR w (.slice none 0 0) [] := World.ownsRow_nil _ _ _ _

theorem encList46r {s : Value} {l : List ByteArray} {w : World} (h : SR w s l) (hs : (encList l).size < 2 ^ 62) : Calls Try.prog 46 #[s] w fun e w' => e = .returned (.string (encList l)) ∧ Below w.heap.size w w' := by
  cases l with
  | nil =>
    rcases h.2 with ⟨hv, -⟩ | ⟨g, cap, cur, hv, -⟩
    · subst hv; exact encList46_nil none 0 w
    · subst hv; exact encList46_nil _ cap w
  | cons y r => exact encList46 (X := []) (s := s) (l := y :: r) ⟨h, fun g _ hm => by simp at hm, fun h0 => by simp at h0⟩ hs

theorem encList_mem {l : List ByteArray} {k : Nat} (hk : k < l.length) : (l[k]).size ≤ (encList l).size := by
  have h1 := encFold_mem hk (itoaB l.length ++ ⟨#[91]⟩)
  have h2 := encStr_size l[k]
  unfold encList
  omega

def nodeB (name : ByteArray) (arr : Bool) (nb lo : ByteArray) (keys opt : List ByteArray) (tog : List (List ByteArray)) (one counts bases tables : List ByteArray) : ByteArray :=
  ⟨#[40]⟩ ++ encStr name ++ (if arr then ⟨#[84]⟩ else ⟨#[70]⟩) ++ encStr nb ++ encStr lo ++ encList keys ++ encList opt ++ encList (tog.map encList) ++ encList one ++ encList counts ++ encList bases ++ encList tables ++ ⟨#[41]⟩
theorem nodeB_size (name : ByteArray) (arr : Bool) (nb lo : ByteArray) (keys opt : List ByteArray) (tog : List (List ByteArray)) (one counts bases tables : List ByteArray) :
    (nodeB name arr nb lo keys opt tog one counts bases tables).size = 1 + (encStr name).size + 1 + (encStr nb).size + (encStr lo).size + (encList keys).size + (encList opt).size + (encList (tog.map encList)).size + (encList one).size + (encList counts).size + (encList bases).size + (encList tables).size + 1 := by
  unfold nodeB
  have : ∀ (b : Bool), (if b then (⟨#[84]⟩ : ByteArray) else ⟨#[70]⟩).size = 1 := by decide
  simp only [ByteArray.size_append, this]
  rfl

set_option maxRecDepth 100000 in
set_option maxHeartbeats 1000000 in
theorem node29_f {X : List Nat} {w : World} (name nb lo : ByteArray) {sk so s1 sc sb st : Value} {a6 : Option Addr} {n6 d6 : Nat} {keys opt : List ByteArray} {tog : List (List ByteArray)} {one counts bases tables : List ByteArray}
    (hk : SR w sk keys) (ho : SR w so opt) (hg : Groups X w (.slice a6 n6 d6) tog) (h1 : SR w s1 one) (hc : SR w sc counts) (hb : SR w sb bases) (ht : SR w st tables)
    (hl : tog.length ≤ 1000) (hs : (nodeB name false nb lo keys opt tog one counts bases tables).size < 2 ^ 62) :
    Calls Try.prog 29 #[.string name, .bool false, .string nb, .string lo, sk, so, .slice a6 n6 d6, s1, sc, sb, st] w fun e w' => e = .returned (.string (nodeB name false nb lo keys opt tog one counts bases tables)) ∧ Below w.heap.size w w' := by
  rw [nodeB_size] at hs
  obtain ⟨hn6, -⟩ := groups_len hg
  subst hn6
  have HK := hide hk
  have HO := hide ho
  have HG := hide hg
  have H1 := hide h1
  have HC := hide hc
  have HBS := hide hb
  have HT := hide ht
  have HS := hide hs
  clear hk ho hg h1 hc hb ht hs
  go_enter Try.func29, Try.ntmps29
  go_wp2_with fail
  go_loopw [24, 25] (fun s i wr => ∃ k : Nat, k ≤ tog.length ∧ i = .int .i64 k ∧ Below w.heap.size w wr ∧ wr.ownsRow w.heap.size 9 1 s ((tog.map encList).take k).length (((tog.map encList).take k).map .string)) (fun _ i _ => tog.length - (intOf i).toNat)
  case atStart => exact ⟨0, Nat.zero_le _, rfl, Below.refl _ _, World.ownsRow_nil _ _ _ _⟩
  case round =>
    obtain ⟨k, hk, rfl, hbr, hsr⟩ := hrel
    have HBR := hide hbr
    have HSR := hide hsr
    by_cases hlt : k < tog.length
    · have hg := (unhide HG).keep (Keep.of_below hbr)
      obtain ⟨g, a', c', e, hgl, hcell, hst, hml⟩ := groups_at hg hlt
      subst e
      have HST := hide hst
      have hkm : k < (tog.map encList).length := by simpa using hlt
      have HTK := hide (List.take_succ_eq_append_getElem hkm)
      have hlen : ((tog.map encList).take k).length + 1 ≤ 1000000 := by simp only [List.length_take, List.length_map]; omega
      have hz : (encList tog[k]).size < 2 ^ 62 := by
        have h := encList_mem hkm
        have h2 := unhide HS
        simp only [List.getElem_map] at h
        omega
      have hbs := hbr.size
      clear hbr hsr hg hst
      unfold maxLen at hml
      go_wp2_with fail
      refine (encList46r (unhide HST).row hz).mono ?_
      rintro e w2 ⟨rfl, hb2⟩
      have HB2 := hide ((unhide HBR).trans (hb2.mono (unhide HBR).size))
      have HSR2 := hide (ownsRow_below (unhide HSR) hb2)
      have hbs2 := (unhide HB2).size
      clear hb2 hcell
      go_wp2_with (at_builtin; (refine wpl_append_one (v := u24) rfl _ _ rfl rfl rfl w.heap.size ((tog.map encList).take k) (unhide HSR2) ?hB hlen ?hb ?hr; (case hB => rfl); (case hb => omega); intro v' w3 hown3 hgrow3))
      go_roundw
      case rel =>
        refine ⟨k + 1, by omega, by go_num, ((unhide HB2).alloc hbs2 _).grown hgrow3 (by simp; omega) (fun b hb => ((unhide HSR2).lt b hb).1), ?_⟩
        rw [unhide HTK]
        simp only [List.getElem_map]
        exact hown3
      case measure => simp [intOf]; omega
    · have hfin : (tog.map encList).take k = tog.map encList := List.take_of_length_le (by simp; omega)
      have hs2 := hsr
      rw [hfin] at hs2
      have HS2 : Hid (SR wr u24 (tog.map encList)) := ownsRow_zero hs2
      have hbs := hbr.size
      have hs := unhide HS
      clear hbr hsr hs2 hfin
      go_wp2_with fail
      refine (encStr44 name (by omega) _).mono ?_
      rintro e v1 ⟨rfl, hb1⟩
      have HB1 := hide ((unhide HBR).trans (hb1.mono (unhide HBR).size))
      have HC1 := hide hb1
      clear hb1
      go_wp2_with fail
      refine (encStr44 nb (by omega) _).mono ?_
      rintro e v2 ⟨rfl, hb2⟩
      have HB2 := hide ((unhide HB1).trans (hb2.mono (unhide HB1).size))
      have HC2 := hide hb2
      clear hb2
      go_wp2_with fail
      refine (encStr44 lo (by omega) _).mono ?_
      rintro e v3 ⟨rfl, hb3⟩
      have HB3 := hide ((unhide HB2).trans (hb3.mono (unhide HB2).size))
      have HC3 := hide hb3
      clear hb3
      go_wp2_with fail
      refine (encList46r ((unhide HK).below (unhide HB3)) (by omega)).mono ?_
      rintro e v4 ⟨rfl, hb4⟩
      have HB4 := hide ((unhide HB3).trans (hb4.mono (unhide HB3).size))
      have HC4 := hide hb4
      clear hb4
      go_wp2_with fail
      refine (encList46r ((unhide HO).below (unhide HB4)) (by omega)).mono ?_
      rintro e v5 ⟨rfl, hb5⟩
      have HB5 := hide ((unhide HB4).trans (hb5.mono (unhide HB4).size))
      have HC5 := hide hb5
      clear hb5
      go_wp2_with fail
      refine (encList46r ((((((unhide HS2).below (unhide HC1)).below (unhide HC2)).below (unhide HC3)).below (unhide HC4)).below (unhide HC5)) (by omega)).mono ?_
      rintro e v6 ⟨rfl, hb6⟩
      have HB6 := hide ((unhide HB5).trans (hb6.mono (unhide HB5).size))
      have HC6 := hide hb6
      clear hb6
      go_wp2_with fail
      refine (encList46r ((unhide H1).below (unhide HB6)) (by omega)).mono ?_
      rintro e v7 ⟨rfl, hb7⟩
      have HB7 := hide ((unhide HB6).trans (hb7.mono (unhide HB6).size))
      have HC7 := hide hb7
      clear hb7
      go_wp2_with fail
      refine (encList46r ((unhide HC).below (unhide HB7)) (by omega)).mono ?_
      rintro e v8 ⟨rfl, hb8⟩
      have HB8 := hide ((unhide HB7).trans (hb8.mono (unhide HB7).size))
      have HC8 := hide hb8
      clear hb8
      go_wp2_with fail
      refine (encList46r ((unhide HBS).below (unhide HB8)) (by omega)).mono ?_
      rintro e v9 ⟨rfl, hb9⟩
      have HB9 := hide ((unhide HB8).trans (hb9.mono (unhide HB8).size))
      have HC9 := hide hb9
      clear hb9
      go_wp2_with fail
      refine (encList46r ((unhide HT).below (unhide HB9)) (by omega)).mono ?_
      rintro e v10 ⟨rfl, hb10⟩
      have HB10 := hide ((unhide HB9).trans (hb10.mono (unhide HB9).size))
      have HC10 := hide hb10
      clear hb10
      go_wp2_with fail
      go_ret
      exact ⟨rfl, unhide HB10⟩

set_option maxRecDepth 100000 in
set_option maxHeartbeats 1000000 in
theorem node29_t {X : List Nat} {w : World} (name nb lo : ByteArray) {sk so s1 sc sb st : Value} {a6 : Option Addr} {n6 d6 : Nat} {keys opt : List ByteArray} {tog : List (List ByteArray)} {one counts bases tables : List ByteArray}
    (hk : SR w sk keys) (ho : SR w so opt) (hg : Groups X w (.slice a6 n6 d6) tog) (h1 : SR w s1 one) (hc : SR w sc counts) (hb : SR w sb bases) (ht : SR w st tables)
    (hl : tog.length ≤ 1000) (hs : (nodeB name true nb lo keys opt tog one counts bases tables).size < 2 ^ 62) :
    Calls Try.prog 29 #[.string name, .bool true, .string nb, .string lo, sk, so, .slice a6 n6 d6, s1, sc, sb, st] w fun e w' => e = .returned (.string (nodeB name true nb lo keys opt tog one counts bases tables)) ∧ Below w.heap.size w w' := by
  rw [nodeB_size] at hs
  obtain ⟨hn6, -⟩ := groups_len hg
  subst hn6
  have HK := hide hk
  have HO := hide ho
  have HG := hide hg
  have H1 := hide h1
  have HC := hide hc
  have HBS := hide hb
  have HT := hide ht
  have HS := hide hs
  clear hk ho hg h1 hc hb ht hs
  go_enter Try.func29, Try.ntmps29
  go_wp2_with fail
  go_loopw [24, 25] (fun s i wr => ∃ k : Nat, k ≤ tog.length ∧ i = .int .i64 k ∧ Below w.heap.size w wr ∧ wr.ownsRow w.heap.size 9 1 s ((tog.map encList).take k).length (((tog.map encList).take k).map .string)) (fun _ i _ => tog.length - (intOf i).toNat)
  case atStart => exact ⟨0, Nat.zero_le _, rfl, Below.refl _ _, World.ownsRow_nil _ _ _ _⟩
  case round =>
    obtain ⟨k, hk, rfl, hbr, hsr⟩ := hrel
    have HBR := hide hbr
    have HSR := hide hsr
    by_cases hlt : k < tog.length
    · have hg := (unhide HG).keep (Keep.of_below hbr)
      obtain ⟨g, a', c', e, hgl, hcell, hst, hml⟩ := groups_at hg hlt
      subst e
      have HST := hide hst
      have hkm : k < (tog.map encList).length := by simpa using hlt
      have HTK := hide (List.take_succ_eq_append_getElem hkm)
      have hlen : ((tog.map encList).take k).length + 1 ≤ 1000000 := by simp only [List.length_take, List.length_map]; omega
      have hz : (encList tog[k]).size < 2 ^ 62 := by
        have h := encList_mem hkm
        have h2 := unhide HS
        simp only [List.getElem_map] at h
        omega
      have hbs := hbr.size
      clear hbr hsr hg hst
      unfold maxLen at hml
      go_wp2_with fail
      refine (encList46r (unhide HST).row hz).mono ?_
      rintro e w2 ⟨rfl, hb2⟩
      have HB2 := hide ((unhide HBR).trans (hb2.mono (unhide HBR).size))
      have HSR2 := hide (ownsRow_below (unhide HSR) hb2)
      have hbs2 := (unhide HB2).size
      clear hb2 hcell
      go_wp2_with (at_builtin; (refine wpl_append_one (v := u24) rfl _ _ rfl rfl rfl w.heap.size ((tog.map encList).take k) (unhide HSR2) ?hB hlen ?hb ?hr; (case hB => rfl); (case hb => omega); intro v' w3 hown3 hgrow3))
      go_roundw
      case rel =>
        refine ⟨k + 1, by omega, by go_num, ((unhide HB2).alloc hbs2 _).grown hgrow3 (by simp; omega) (fun b hb => ((unhide HSR2).lt b hb).1), ?_⟩
        rw [unhide HTK]
        simp only [List.getElem_map]
        exact hown3
      case measure => simp [intOf]; omega
    · have hfin : (tog.map encList).take k = tog.map encList := List.take_of_length_le (by simp; omega)
      have hs2 := hsr
      rw [hfin] at hs2
      have HS2 : Hid (SR wr u24 (tog.map encList)) := ownsRow_zero hs2
      have hbs := hbr.size
      have hs := unhide HS
      clear hbr hsr hs2 hfin
      go_wp2_with fail
      refine (encStr44 name (by omega) _).mono ?_
      rintro e v1 ⟨rfl, hb1⟩
      have HB1 := hide ((unhide HBR).trans (hb1.mono (unhide HBR).size))
      have HC1 := hide hb1
      clear hb1
      go_wp2_with fail
      refine (encStr44 nb (by omega) _).mono ?_
      rintro e v2 ⟨rfl, hb2⟩
      have HB2 := hide ((unhide HB1).trans (hb2.mono (unhide HB1).size))
      have HC2 := hide hb2
      clear hb2
      go_wp2_with fail
      refine (encStr44 lo (by omega) _).mono ?_
      rintro e v3 ⟨rfl, hb3⟩
      have HB3 := hide ((unhide HB2).trans (hb3.mono (unhide HB2).size))
      have HC3 := hide hb3
      clear hb3
      go_wp2_with fail
      refine (encList46r ((unhide HK).below (unhide HB3)) (by omega)).mono ?_
      rintro e v4 ⟨rfl, hb4⟩
      have HB4 := hide ((unhide HB3).trans (hb4.mono (unhide HB3).size))
      have HC4 := hide hb4
      clear hb4
      go_wp2_with fail
      refine (encList46r ((unhide HO).below (unhide HB4)) (by omega)).mono ?_
      rintro e v5 ⟨rfl, hb5⟩
      have HB5 := hide ((unhide HB4).trans (hb5.mono (unhide HB4).size))
      have HC5 := hide hb5
      clear hb5
      go_wp2_with fail
      refine (encList46r ((((((unhide HS2).below (unhide HC1)).below (unhide HC2)).below (unhide HC3)).below (unhide HC4)).below (unhide HC5)) (by omega)).mono ?_
      rintro e v6 ⟨rfl, hb6⟩
      have HB6 := hide ((unhide HB5).trans (hb6.mono (unhide HB5).size))
      have HC6 := hide hb6
      clear hb6
      go_wp2_with fail
      refine (encList46r ((unhide H1).below (unhide HB6)) (by omega)).mono ?_
      rintro e v7 ⟨rfl, hb7⟩
      have HB7 := hide ((unhide HB6).trans (hb7.mono (unhide HB6).size))
      have HC7 := hide hb7
      clear hb7
      go_wp2_with fail
      refine (encList46r ((unhide HC).below (unhide HB7)) (by omega)).mono ?_
      rintro e v8 ⟨rfl, hb8⟩
      have HB8 := hide ((unhide HB7).trans (hb8.mono (unhide HB7).size))
      have HC8 := hide hb8
      clear hb8
      go_wp2_with fail
      refine (encList46r ((unhide HBS).below (unhide HB8)) (by omega)).mono ?_
      rintro e v9 ⟨rfl, hb9⟩
      have HB9 := hide ((unhide HB8).trans (hb9.mono (unhide HB8).size))
      have HC9 := hide hb9
      clear hb9
      go_wp2_with fail
      refine (encList46r ((unhide HT).below (unhide HB9)) (by omega)).mono ?_
      rintro e v10 ⟨rfl, hb10⟩
      have HB10 := hide ((unhide HB9).trans (hb10.mono (unhide HB9).size))
      have HC10 := hide hb10
      clear hb10
      go_wp2_with fail
      go_ret
      exact ⟨rfl, unhide HB10⟩

theorem node29 {X : List Nat} {w : World} (name : ByteArray) (arr : Bool) (nb lo : ByteArray) {sk so s1 sc sb st sg : Value} {keys opt : List ByteArray} {tog : List (List ByteArray)} {one counts bases tables : List ByteArray}
    (hk : SR w sk keys) (ho : SR w so opt) (hg : Groups X w sg tog) (h1 : SR w s1 one) (hc : SR w sc counts) (hb : SR w sb bases) (ht : SR w st tables)
    (hl : tog.length ≤ 1000) (hs : (nodeB name arr nb lo keys opt tog one counts bases tables).size < 2 ^ 62) :
    Calls Try.prog 29 #[.string name, .bool arr, .string nb, .string lo, sk, so, sg, s1, sc, sb, st] w fun e w' => e = .returned (.string (nodeB name arr nb lo keys opt tog one counts bases tables)) ∧ Below w.heap.size w w' := by
  obtain ⟨vs, hv, -⟩ := id hg
  obtain ⟨a, c, e, -⟩ := Own.form hv
  subst e
  cases arr with
  | false => exact node29_f name nb lo hk ho hg h1 hc hb ht hl hs
  | true => exact node29_t name nb lo hk ho hg h1 hc hb ht hl hs

def thrB (name nb : ByteArray) (keys bases : List ByteArray) : ByteArray := nodeB name false nb k_no_rule keys [] [] [] [] bases []

set_option maxRecDepth 100000 in
theorem thr38 {w : World} (name nb : ByteArray) {sk sb : Value} {keys bases : List ByteArray} (hk : SR w sk keys) (hb : SR w sb bases) (hs : (thrB name nb keys bases).size < 2 ^ 62) :
    Calls Try.prog 38 #[.string name, .string nb, sk, sb] w fun e w' => e = .returned (.string (thrB name nb keys bases)) ∧ Below w.heap.size w w' := by
  have HK := hide hk
  have HB := hide hb
  have HS := hide hs
  clear hk hb hs
  go_enter Try.func38, Try.ntmps38
  go_wp2_with fail
  refine (node29 (X := []) name false nb k_no_rule (unhide HK) (SR.nil _) (noGroups _ _) (SR.nil _) (SR.nil _) (unhide HB) (SR.nil _) (by simp) (unhide HS)).mono ?_
  rintro e w1 ⟨rfl, hb1⟩
  have HB1 := hide hb1
  clear hb1
  go_wp2_with fail
  go_ret
  exact ⟨rfl, unhide HB1⟩
end Go.Proofs.Qxb6601023a
