/-
  OWN WORK. FnDisagreementNamesTheKindOfEachChange: true, whatever the two maps.
-/
import Derived.Test.Qxb6603884aDis
import Derived.Deep.RegionWith
namespace Go.Proofs.Qxb6603884a
open Go Go.RowKit
set_option linter.unusedVariables false
set_option linter.unusedSimpArgs false
attribute [local go_sem] run_eql31

def Post5 (w : World) (e : Ending) (w' : World) : Prop := e = .returned (.bool true) ∧ Below w.heap.size w w'
def Inv5a (w w4 : World) (D : DataW Value) (ks : List ByteArray) (i : Value) (wr : World) : Prop := ∃ k : Nat, k ≤ ks.length ∧ i = .int .i64 k ∧ wr = w4 ∧ ∀ x ∈ ks.take k, NN (val D x)
def Inv5b (w w7 : World) (n : Nat) (i : Value) (wr : World) : Prop := ∃ k : Nat, k ≤ n ∧ i = .int .i64 k ∧ Below w.heap.size w wr ∧ Below w7.heap.size w7 wr

set_option maxRecDepth 100000 in
set_option maxHeartbeats 1000000 in
theorem walk5 (hsort : SortOk) {w : World} {hv wv : Value} {Dh Dw : DataW Value} (hh : Mv w hv Dh) (hw : Mv w wv Dw) : Calls Try.prog 5 #[hv, wv] w (Post5 w) := by
  have hl1 := hh.1.len
  have hl2 := hw.1.len
  have HS := hide hsort
  have HH := hide hh
  have HW := hide hw
  clear hsort hh hw
  by_cases h0 : 65536 < Maps.size Dh
  · go_enter Try.func5, Try.ntmps5
    go_wp2_with fail
    go_ret
    exact ⟨rfl, Below.refl _ _⟩
  by_cases h1 : 65536 < Maps.size Dw
  · go_enter Try.func5, Try.ntmps5
    go_wp2_with fail
    go_ret
    exact ⟨rfl, Below.refl _ _⟩
  go_enter Try.func5, Try.ntmps5
  go_wp2_with fail
  clear hl1 hl2
  refine (keys6 (unhide HS) (unhide HH) (by omega)).mono ?_
  rintro e w1 ⟨hs, hk, rfl, hrd1, hb1, hko1, hn1⟩
  have HB1 := hide hb1
  have HR1 := hide hrd1
  have HK1 := hide hko1
  have HH1 := hide ((unhide HH).below hb1)
  have HW1 := hide ((unhide HW).below hb1)
  clear hb1 hrd1 hko1
  go_wp2_with fail
  refine (keys6 (unhide HS) (unhide HW1) (by omega)).mono ?_
  rintro e w2 ⟨ws, wk, rfl, hrd2, hb2, hko2, hn2⟩
  have HB2 := hide ((unhide HB1).trans (hb2.mono (unhide HB1).size))
  have HR2 := hide hrd2
  have HK2 := hide hko2
  have HR1' := hide ((unhide HR1).below hb2)
  have HH2 := hide ((unhide HH1).below hb2)
  have HW2 := hide ((unhide HW1).below hb2)
  clear hb2 hrd2 hko2 HB1 HR1 HH1 HW1 HH HW
  go_wp2_with fail
  refine (bytes7 (unhide HH2) (unhide HR1') (unhide HK1) hn1).mono ?_
  rintro e w3 ⟨n1, rfl, rfl, hle1, hsh1⟩
  have HSh1 := hide hsh1
  clear hsh1
  go_wp2_with fail
  refine (bytes7 (unhide HW2) (unhide HR2) (unhide HK2) hn2).mono ?_
  rintro e w4 ⟨n2, rfl, rfl, hle2, hsh2⟩
  have HSh2 := hide hsh2
  clear hsh2
  by_cases hsum : 1048576 < n1 + n2
  · go_wp2_with fail
    go_ret
    exact ⟨rfl, unhide HB2⟩
  have HS1 := hide ((unhide HSh1) (by omega))
  have HS2 := hide ((unhide HSh2) (by omega))
  clear HSh1 HSh2
  obtain ⟨wa, wc, rfl, _, wcell⟩ := id (unhide HR2)
  have HWC := hide wcell
  clear wcell
  go_wp2_with fail
  go_loopw [50] (fun i wr => Inv5a w w4 Dw wk i wr) (fun i _ => wk.length - (intOf i).toNat)
  case atStart => exact ⟨0, Nat.zero_le _, rfl, rfl, fun x hx => by simp at hx⟩
  case round =>
    obtain ⟨k, hkl, rfl, rfl, hnn⟩ := hrel
    have HNN := hide hnn
    clear hnn
    by_cases hlt : k < wk.length
    · obtain ⟨b0, off, rfl, hbl, hc⟩ := (unhide HWC) k hlt
      have hkk := ((unhide HK2) wk[k] (List.getElem_mem hlt)).1
      have hlook := (unhide HW2).1.look hkk
      obtain ⟨a2, n3, c2, e2, _, _⟩ := (unhide HW2).2 wk[k]
      have HV := hide e2
      have HTake : Hid (wk.take (k + 1) = wk.take k ++ [wk[k]]) := hide (List.take_succ_eq_append_getElem hlt)
      rw [e2] at hlook
      clear e2
      generalize wk[k] = s1 at *
      cases a2 with
      | none =>
        go_wp2_with fail
        go_ret
        exact ⟨rfl, unhide HB2⟩
      | some a2 =>
        go_wp2_with fail
        go_roundw
        case rel =>
          refine ⟨k + 1, by omega, by go_num, rfl, ?_⟩
          rw [unhide HTake]
          intro x hx
          rcases List.mem_append.1 hx with hx | hx
          · exact (unhide HNN) x hx
          · rw [List.mem_singleton] at hx
            subst hx
            exact ⟨_, _, _, unhide HV⟩
        case measure => simp [intOf]; omega
    · have hall : ∀ x ∈ wk, NN (val Dw x) := by
        have h := unhide HNN
        rw [List.take_of_length_le (by omega)] at h
        exact h
      have HAll := hide hall
      clear hall HNN
      go_wp2_with fail
      refine (copy8_any (unhide HH2) (unhide HR1') (unhide HK1) hn1 (unhide HS1)).mono ?_
      rintro e w5 ⟨hv', Dh', rfl, hm5, hz5, hb5, _⟩
      have HM5 := hide hm5
      have HB5 := hide ((unhide HB2).trans (hb5.mono (unhide HB2).size))
      have HW5 := hide ((unhide HW2).below hb5)
      have HR5 := hide ((unhide HR2).below hb5)
      clear hm5 hb5
      go_wp2_with fail
      refine (copy8_any (unhide HW5) (unhide HR5) (unhide HK2) hn2 (unhide HS2)).mono ?_
      rintro e w6 ⟨wv', Dw', rfl, hm6, hz6, hb6, hcp6⟩
      have HM6 := hide hm6
      have HN6 := hide (hcp6 (unhide HAll))
      have HB6 := hide ((unhide HB5).trans (hb6.mono (unhide HB5).size))
      have HM5' := hide ((unhide HM5).below hb6)
      clear hm6 hb6 hcp6 HH2 HW2 HR1' HR2 HW5 HR5 HWC HM5 HB5
      go_wp2_with fail
      refine (zz9 (unhide HS) (unhide HM5') (unhide HM6) hz5 hz6).mono ?_
      rintro e w7 ⟨p, c, l, rfl, hrp, hrc, hb7, hok, hlen, _, _⟩
      have HB7 := hide ((unhide HB6).trans (hb7.mono (unhide HB6).size))
      have HH7 := hide ((unhide HM5').below hb7)
      have HW7 := hide ((unhide HM6).below hb7)
      have HOk := hide hok
      obtain ⟨pa, pc, rfl, _, pcell⟩ := hrp
      obtain ⟨ca, ccap, rfl, _, ccell⟩ := hrc
      have hpl : (paths l).length = l.length := by simp [paths]
      have hcl : (conts l).length = l.length := by simp [conts]
      have HPC := hide pcell
      have HCC := hide ccell
      clear hb7 hok pcell ccell HM5' HM6 HB6 HS1 HS2 HK1 HK2 HAll
      rw [hpl, hcl]
      go_wp2_with fail
      go_loopw [80] (fun i wq => Inv5b w w7 l.length i wq) (fun i _ => l.length - (intOf i).toNat)
      case atStart => exact ⟨0, Nat.zero_le _, rfl, unhide HB7, Below.refl _ _⟩
      case round =>
        obtain ⟨j, hj, rfl, hbq, hbq7⟩ := hrel
        have HBq := hide hbq
        have HBq7 := hide hbq7
        clear hbq hbq7
        by_cases hjl : j < l.length
        · obtain ⟨b0, off0, rfl, hbl0, hc0⟩ := (unhide HPC) j (by omega)
          obtain ⟨b1, off1, rfl, hbl1, hc1⟩ := (unhide HCC) j (by omega)
          have hcp : wr.cell? ⟨b0, off0 + j, none⟩ = some (.string l[j].1) := by rw [(unhide HBq7).cell (p := ⟨b0, off0 + j, none⟩) hbl0, hc0]; simp [paths]
          have hcc : wr.cell? ⟨b1, off1 + j, none⟩ = some (.slice l[j].2.1 l[j].2.2.1 l[j].2.2.2) := by rw [(unhide HBq7).cell (p := ⟨b1, off1 + j, none⟩) hbl1, hc1]; simp [conts]
          obtain ⟨hsz, hgood⟩ := (unhide HOk) l[j] (List.getElem_mem hjl)
          have hsl : sl l[j].2 = .slice l[j].2.1 l[j].2.2.1 l[j].2.2.2 := rfl
          rw [hsl] at hgood
          clear hc0 hc1 hsl
          generalize l[j].1 = s1 at *
          generalize l[j].2.1 = a1 at *
          generalize l[j].2.2.1 = m1 at *
          generalize l[j].2.2.2 = c1 at *
          have hdis : ∀ W, Below w7.heap.size w7 W → Calls Try.prog 12 #[.string s1, .slice a1 m1 c1, hv'] W fun e w' => e = .returned (.string (msg (has Dh' s1) a1)) ∧ Below W.heap.size W w' := fun W hW => dis12 ((unhide HH7).below hW).1 hsz
          have HDis := hide hdis
          have HGood := hide hgood
          clear hdis hgood
          go_wp2_with fail
          go_region_with (go_at_call 12; refine ((unhide HDis) _ (unhide HBq7).drew).mono ?_; rintro e w8 ⟨rfl, hb8⟩)
          all_goals
            have hb9 : Below w7.heap.size w7 w8 := (unhide HBq7).drew.trans (hb8.mono (unhide HBq7).size)
            have hb10 : Below w.heap.size w w8 := (unhide HBq).drew.trans (hb8.mono (unhide HBq).size)
            have hcp8 : w8.cell? ⟨b0, off0 + j, none⟩ = some (.string s1) := by rw [hb8.cell (p := ⟨b0, off0 + j, none⟩) (Nat.lt_of_lt_of_le hbl0 (unhide HBq7).size)]; exact hcp
            have hlk1 := ((unhide HH7).below hb9).1.look_ok hsz
            have hlk2 := ((unhide HW7).below hb9).1.look_ok hsz
            have HI : Hid (Inv5b w w7 l.length (.int .i64 ((j : Int) + 1)) w8) := ⟨j + 1, by omega, by go_num, hb10, hb9⟩
            have hmsg : (has Dh' s1 = false ∧ msg (has Dh' s1) a1 = mMissing) ∨ (has Dh' s1 = true ∧ has Dw' s1 = false ∧ msg (has Dh' s1) a1 = mNoFile) ∨ (has Dh' s1 = true ∧ has Dw' s1 = true ∧ msg (has Dh' s1) a1 = mOther) := by
              cases hq : has Dh' s1 with
              | false => exact .inl ⟨rfl, rfl⟩
              | true =>
                rcases unhide HGood with ⟨e1, e2⟩ | ⟨e1, e2⟩
                · refine .inr (.inr ⟨rfl, e1, ?_⟩)
                  obtain ⟨x, y, z, e3⟩ := (unhide HN6) s1 e1
                  rw [← e2] at e3
                  cases e3
                  rfl
                · refine .inr (.inl ⟨rfl, e1, ?_⟩)
                  cases e2
                  rfl
            clear hb8 hb9 hb10 hcp hcc
            generalize val Dh' s1 = vv1 at *
            generalize val Dw' s1 = vv2 at *
            generalize msg (has Dh' s1) a1 = M at *
            rcases hmsg with ⟨q1, q2⟩ | ⟨q1, q2, q3⟩ | ⟨q1, q2, q3⟩
            · rw [q1] at hlk1
              subst q2
              unfold mMissing
              clear q1 HDis
              go_wp2_with fail
              go_roundw
              case rel => exact unhide HI
              case measure => simp [intOf]; omega
            · rw [q1] at hlk1
              rw [q2] at hlk2
              subst q3
              unfold mNoFile
              clear q1 q2 HDis
              go_wp2_with fail
              go_roundw
              case rel => exact unhide HI
              case measure => simp [intOf]; omega
            · rw [q1] at hlk1
              rw [q2] at hlk2
              subst q3
              unfold mOther
              clear q1 q2 HDis
              go_wp2_with fail
              go_roundw
              case rel => exact unhide HI
              case measure => simp [intOf]; omega
        · go_wp2_with fail
          go_ret
          exact ⟨rfl, unhide HBq⟩
end Go.Proofs.Qxb6603884a
