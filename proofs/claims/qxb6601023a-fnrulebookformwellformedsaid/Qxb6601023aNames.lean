/-
  OWN WORK. (form).names (41) and ZZnames_b1 (17).
-/
import Derived.Test.Qxb6601023aBoardV
namespace Go.Proofs.Qxb6601023a
open Go.RowKit Go.Flow
set_option linter.unusedVariables false
set_option linter.unusedSimpArgs false

def phi41 (base N : Nat) (sk so : Value) (keys : List ByteArray) : Nat → Value → World → Prop
  | 0, v, _ => v = .pointer (some ⟨N, 4, none⟩)
  | 1, v, _ => v = sk
  | 2, v, w => w.ownsRow base 9 1 v keys.length (keys.map .string)
  | 3, v, _ => v = .pointer (some ⟨N, 5, none⟩)
  | 4, v, _ => v = so
  | _, _, _ => False

theorem ownsRow_below {base : Nat} {w w' : World} {e size n : Nat} {v : Value} {xs : List Value} (h : w.ownsRow base e size v n xs) (hb : Below w.heap.size w w') : w'.ownsRow base e size v n xs := ownsRow_keep (X := []) h (Keep.of_below hb) (by simp)

theorem phi41_keep {base N : Nat} {sk so : Value} {keys : List ByteArray} (i : Nat) (v : Value) (w1 w2 : World) (hi : i < 5) (h : phi41 base N sk so keys i v w1) (hb : Below w1.heap.size w1 w2) : phi41 base N sk so keys i v w2 := by
  match i, h with
  | 0, h => exact h
  | 1, h => exact h
  | 2, h => exact ownsRow_below h hb
  | 3, h => exact h
  | 4, h => exact h

theorem below_of_grown_none {w w' : World} (h : w.grownBy w' none) : Below w.heap.size w w' := ⟨h.os, h.tape, h.output, h.size, fun k hk => h.block k hk (by simp)⟩

theorem op_append_strs {o : Oper} {a : Act} {w : World} {K : Act → World → Prop} {Q : Exit → Act → World → Prop} {s x : Operand} (ho : o.op = .call { callee := .builtin .append, args := #[s, x], argTypes := #[24, 24] })
    (base : Nat) (v : Value) (n : Nat) (xs : List Value) (hs : a.eval s = v) (hown : w.ownsRow base 9 1 v n xs)
    (b' : Nat) (v2 : Value) (m : Nat) (news : List Value) (hx : a.eval x = v2) (hsrc : w.ownsRow b' 9 1 v2 m news) (h1 : ∀ u ∈ news, u.oneCell' = true)
    (hnm : n + m ≤ 1000000) (hbase : base ≤ w.heap.size)
    (h : ∀ v' w', w'.ownsRow base 9 1 v' (n + m) (xs ++ news) → w.grownBy w' v.ownBlock → (v'.ownBlock = v.ownBlock ∨ v'.ownBlock = some w.heap.size) → K (a.put o.dst v') w') : o.wp Try.prog a w K Q := by
  obtain ⟨v', w', hr, h2, h3, h4⟩ := run_append_row (P := Try.prog) w base 24 o.type 9 Try.t9 (.string ⟨#[]⟩) 1 16 Try.underlying24 info9 (by kernel_rfl) (by kernel_rfl) (by kernel_rfl) rfl (by omega) v n xs hown b' v2 m news hsrc h1 (by unfold maxLen; omega) (by omega) hbase
  unfold Oper.wp execOp
  simp only [ho, resolve, invoke, builtin, Sem.run_bind, Sem.run_pure, Result.andThen_ok, List.map_toArray, List.map_cons, List.map_nil, hs, hx, hr]
  exact h v' w' h2 h3 h4

theorem one_strs (l : List ByteArray) : ∀ u ∈ l.map Value.string, u.oneCell' = true := by
  intro u hu
  obtain ⟨b, _, rfl⟩ := List.mem_map.1 hu
  rfl

theorem run_field (w : World) (N k : Nat) : (Instr.fieldAt 30 (.pointer (some ⟨N, 0, none⟩)) 4).run Try.prog w = .ok (.pointer (some ⟨N, 4, none⟩)) w := by simp [go_sem]
theorem run_field5 (w : World) (N : Nat) : (Instr.fieldAt 30 (.pointer (some ⟨N, 0, none⟩)) 5).run Try.prog w = .ok (.pointer (some ⟨N, 5, none⟩)) w := by simp [go_sem]
theorem op_fieldAddr {o : Oper} {a : Act} {w : World} {K : Act → World → Prop} {Q : Exit → Act → World → Prop} {t f : Nat} {x : Operand} {p v : Value} (ho : o.op = .fieldAddr t x f) (hx : a.eval x = p) (hr : (Instr.fieldAt t p f).run Try.prog w = .ok v w) (h : K (a.put o.dst v) w) : o.wp Try.prog a w K Q := by
  refine op_value (v := v) (w' := w) ?_ h
  unfold execOp
  simp only [ho, hx, Sem.run_bind, hr, Result.andThen_ok]
  rfl
theorem run_load24 {w : World} {b j n c : Nat} {a : Option Addr} (h : w.cell? ⟨b, j, none⟩ = some (.slice a n c)) : (Instr.loadAt 24 (.pointer (some ⟨b, j, none⟩))).run Try.prog w = .ok (.slice a n c) w := by
  simp [go_sem, h]

/-- What names hands back. -/
def namesL (keys opt : List ByteArray) (tog : List (List ByteArray)) : List ByteArray := keys ++ opt ++ tog.flatten

theorem namesL_succ {keys opt : List ByteArray} {tog : List (List ByteArray)} {k : Nat} (h : k < tog.length) : namesL keys opt (tog.take (k + 1)) = namesL keys opt (tog.take k) ++ tog[k] := by
  unfold namesL
  rw [List.take_succ_eq_append_getElem h, List.flatten_append]
  simp [List.append_assoc]
theorem namesL_le {keys opt : List ByteArray} {tog : List (List ByteArray)} (m : Nat) : (namesL keys opt (tog.take m)).length ≤ (namesL keys opt tog).length := by
  have e : namesL keys opt tog = namesL keys opt (tog.take m) ++ (tog.drop m).flatten := by
    unfold namesL
    rw [List.append_assoc (keys ++ opt), ← List.flatten_append, List.take_append_drop]
  rw [e]
  simp
theorem ownsRow_base {base base' : Nat} {w : World} {e size n : Nat} {v : Value} {xs : List Value} (h : w.ownsRow base e size v n xs) (hb : base' ≤ base) : w.ownsRow base' e size v n xs :=
  ⟨h.1, h.2.elim (fun h => .inl h) fun ⟨g, cap, cur, hv, hg, rest⟩ => .inr ⟨g, cap, cur, hv, Nat.le_trans hb hg, rest⟩⟩

set_option maxRecDepth 100000 in
set_option maxHeartbeats 1000000 in
theorem names41 {X : List Nat} {c0 c1 c2 c3 c7 c8 c9 c10 : Value} {a4 a5 a6 : Option Addr} {n4 d4 n5 d5 n6 d6 : Nat} {keys opt : List ByteArray} {tog : List (List ByteArray)} {w : World}
    (hk : Strs X w (.slice a4 n4 d4) keys) (ho : Strs X w (.slice a5 n5 d5) opt) (hg : Groups X w (.slice a6 n6 d6) tog) (hlen : (namesL keys opt tog).length ≤ 1000) :
    Calls Try.prog 41 #[.agg #[c0, c1, c2, c3, .slice a4 n4 d4, .slice a5 n5 d5, .slice a6 n6 d6, c7, c8, c9, c10]] w fun e w' => ∃ s, e = .returned s ∧ w'.ownsRow w.heap.size 9 1 s (namesL keys opt tog).length ((namesL keys opt tog).map .string) ∧ Below w.heap.size w w' := by
  have hlk : keys.length + opt.length ≤ 1000 := by simp [namesL] at hlen; omega
  have HK : Hid (Strs X w (.slice a4 n4 d4) keys) := hk
  have HO : Hid (Strs X w (.slice a5 n5 d5) opt) := ho
  have HG : Hid (Groups X w (.slice a6 n6 d6) tog) := hg
  clear hk ho hg
  go_enter Try.func41, Try.ntmps41
  go_wp2
  obtain ⟨W, hW⟩ : ∃ W, W = w.alloc (.cells #[c0, c1, c2, c3, .slice a4 n4 d4, .slice a5 n5 d5, .slice a6 n6 d6, c7, c8, c9, c10] 30) := ⟨_, rfl⟩
  have hVB : VarB W w.heap.size #[c0, c1, c2, c3, .slice a4 n4 d4, .slice a5 n5 d5, .slice a6 n6 d6, c7, c8, c9, c10] := by subst hW; exact VarB.new _ _ rfl
  have hbW : Below w.heap.size w W := by subst hW; exact (Below.refl _ _).alloc (Nat.le_refl _) _
  have hWs : w.heap.size < W.heap.size := hVB.1
  rw [← hW]
  clear hW
  refine wp_region_flow2 5 [6, 7, 8, 9, 10] (phi41 W.heap.size w.heap.size (.slice a4 n4 d4) (.slice a5 n5 d5) keys) (by kernel_rfl) (by kernel_rfl) phi41_keep ?hop ?hend
  case hop =>
    intro i o hi ho vals F w' hF hb hd
    have hv' := hVB.below hb
    have ev1 : F.eval (.tmp 1) = .pointer (some ⟨w.heap.size, 0, none⟩) := by rw [hF]; kernel_rfl
    have ev6 : F.eval (.tmp 6) = vals 0 := by rw [hF]; kernel_rfl
    have ev7 : F.eval (.tmp 7) = vals 1 := by rw [hF]; kernel_rfl
    have ev9 : F.eval (.tmp 9) = vals 3 := by rw [hF]; kernel_rfl
    clear hF
    have hi' : i = 0 ∨ i = 1 ∨ i = 2 ∨ i = 3 ∨ i = 4 := by omega
    rcases hi' with rfl | rfl | rfl | rfl | rfl
    all_goals simp only [List.getElem?_cons_zero, List.getElem?_cons_succ, Option.some.injEq] at ho
    all_goals subst ho
    · refine op_fieldAddr (x := .tmp 1) rfl ev1 (run_field _ _ 0) ?_
      exact ⟨_, rfl, Below.refl _ _, rfl⟩
    · have h0 : vals 0 = .pointer (some ⟨w.heap.size, 4, none⟩) := hd ⟨0, .data⟩ (by simp) rfl
      refine op_load (x := .tmp 6) rfl (ev6.trans h0) (run_load24 (hv'.2.1 4)) ?_
      exact ⟨_, rfl, Below.refl _ _, rfl⟩
    · have h1 : vals 1 = .slice a4 n4 d4 := hd ⟨1, .data⟩ (by simp) rfl
      refine op_append_strs (s := .const (.slice none 0 0)) (x := .tmp 7) rfl W.heap.size (.slice none 0 0) 0 [] rfl (World.ownsRow_nil _ _ _ _) 0 (.slice a4 n4 d4) keys.length (keys.map .string) (ev7.trans h1) (HK.out.keep (Keep.of_below (hbW.trans (hb.mono hbW.size)))).1 (one_strs _) (by omega) hb.size ?_
      intro v' w2 hown hgrow hat
      refine ⟨v', rfl, below_of_grown_none hgrow, ?_⟩
      have h5 : w2.ownsRow W.heap.size 9 1 v' keys.length (keys.map .string) := by simpa using hown
      exact h5
    · refine op_fieldAddr (x := .tmp 1) rfl ev1 (run_field5 _ _) ?_
      exact ⟨_, rfl, Below.refl _ _, rfl⟩
    · have h3 : vals 3 = .pointer (some ⟨w.heap.size, 5, none⟩) := hd ⟨3, .data⟩ (by simp) rfl
      refine op_load (x := .tmp 9) rfl (ev9.trans h3) (run_load24 (hv'.2.1 5)) ?_
      exact ⟨_, rfl, Below.refl _ _, rfl⟩
  case hend =>
    intro vals w' hb hd
    have h2 : w'.ownsRow W.heap.size 9 1 (vals 2) keys.length (keys.map .string) := hd 2 (by omega)
    have h4 : vals 4 = .slice a5 n5 d5 := hd 4 (by omega)
    have hbw : Below w.heap.size w w' := hbW.trans (hb.mono hbW.size)
    dsimp only [List.drop]
    simp only [fill, Act.put, List.setIfInBounds_toArray, List.set_cons_succ, List.set_cons_zero, Nat.zero_add, Nat.reduceAdd]
    refine wpl_append_strs rfl (.tmp 8) (.tmp 10) rfl W.heap.size (vals 2) keys.length (keys.map .string) rfl h2 0 (.slice a5 n5 d5) opt.length (opt.map .string) h4 (HO.out.keep (Keep.of_below hbw)).1 (one_strs _) (by omega) hb.size ?_
    intro v' w2 hown hgrow hat
    have hbW2 : Below W.heap.size W w2 := hb.grown hgrow hb.size (fun k hk => (h2.lt k hk).1)
    have hv2 := hVB.below hbW2
    obtain ⟨hl2, hc2, hf2⟩ := hv2
    have HB2 : Hid (Below W.heap.size W w2) := hbW2
    have HV2 : Hid (w2.ownsRow W.heap.size 9 1 v' (keys ++ opt).length ((keys ++ opt).map .string)) := by
      show w2.ownsRow W.heap.size 9 1 v' (keys ++ opt).length ((keys ++ opt).map .string)
      simpa using hown
    clear hbW2 hown hgrow hat hd h2 h4 hbw hb hVB
    have HBW : Hid (Below w.heap.size w W) := hbW
    clear hbW
    obtain ⟨vs, hvo, hvl, hve⟩ := HG.out
    have hn6 : n6 = tog.length := by
      obtain ⟨a, c, e, -⟩ := Own.form hvo
      cases e; rfl
    subst hn6
    have HVE : Hid (∀ (i : Nat) (v : Value) (l : List ByteArray), vs[i]? = some v → tog[i]? = some l → Strs X w v l) := hve
    have HVO : Hid (Own X w 24 1 (.slice a6 tog.length d6) tog.length vs) := hvo
    have htl : tog.length ≤ maxLen := by
      obtain ⟨a, c, e, h1, h2⟩ := Own.form hvo
      omega
    unfold maxLen at htl
    clear hve hvo
    go_wp2
    go_loopw [3, 15] (fun s i wr => ∃ k : Nat, k ≤ tog.length ∧ i = .int .i64 k ∧ Below W.heap.size W wr ∧ wr.ownsRow W.heap.size 9 1 s (namesL keys opt (tog.take k)).length ((namesL keys opt (tog.take k)).map .string)) (fun _ i _ => tog.length - (intOf i).toNat)
    case atStart => exact ⟨0, Nat.zero_le _, rfl, HB2.out, by simpa [namesL] using HV2.out⟩
    case round =>
      obtain ⟨k, hk, rfl, hbr, hor⟩ := hrel
      have HBR : Hid (Below W.heap.size W wr) := hbr
      have HOR : Hid (wr.ownsRow W.heap.size 9 1 u3 (namesL keys opt (tog.take k)).length ((namesL keys opt (tog.take k)).map .string)) := hor
      have hbwr : Below w.heap.size w wr := HBW.out.trans (hbr.mono HBW.out.size)
      have HBWR : Hid (Below w.heap.size w wr) := hbwr
      clear hbr hor hc2 hf2 hl2
      by_cases hlt : k < tog.length
      · obtain ⟨g6, cc, e6, -, -, hg6, -, hcell⟩ := Own.pos HVO.out (by omega)
        cases e6
        have hvk : vs[k]? = some (vs[k]'(by omega)) := List.getElem?_eq_getElem (by omega)
        have htk : tog[k]? = some tog[k] := List.getElem?_eq_getElem hlt
        have hsk := HVE.out k _ _ hvk htk
        obtain ⟨ag, dg, eg, -⟩ := Own.form hsk
        have hck : wr.cell? ⟨g6, k, none⟩ = some (.slice ag tog[k].length dg) := by
          rw [hbwr.cell (p := ⟨g6, k, none⟩) hg6, hcell k (by omega), hvk, eg]
        have HSK : Hid (wr.ownsRow 0 9 1 (.slice ag tog[k].length dg) tog[k].length (tog[k].map .string)) := by
          rw [eg] at hsk
          exact (hsk.keep (Keep.of_below hbwr)).1
        have hsum : (namesL keys opt (tog.take k)).length + tog[k].length ≤ 1000 := by
          have h1 := namesL_le (keys := keys) (opt := opt) (tog := tog) (k + 1)
          rw [namesL_succ hlt, List.length_append] at h1
          omega
        have hWr := HBR.out.size
        clear hcell hvk htk hsk eg hbwr
        go_wp2_with (at_builtin; (refine wpl_append_strs (v := u3) rfl (.tmp 19) (.tmp 20) rfl W.heap.size _ _ rfl HOR.out 0 _ _ _ rfl HSK.out (one_strs _) ?_ hWr ?_; omega; intro v' w3 hown3 hgrow3 hat3))
        go_roundw
        case rel =>
          refine ⟨k + 1, by omega, by go_num, HBR.out.grown hgrow3 HBR.out.size (fun b hb => (HOR.out.lt b hb).1), ?_⟩
          rw [namesL_succ hlt, List.length_append, List.map_append]
          exact hown3
        case measure => simp [intOf]; omega
      · clear hbwr
        go_wp2
        go_ret
        have e : tog.take k = tog := List.take_of_length_le (by omega)
        have h3 := HOR.out
        rw [e] at h3
        exact ⟨_, rfl, ownsRow_base h3 HBW.out.size, HBWR.out⟩

set_option maxRecDepth 100000 in
theorem names17 {X : List Nat} {c0 c1 c2 c3 c7 c8 c9 c10 : Value} {a4 a5 a6 : Option Addr} {n4 d4 n5 d5 n6 d6 : Nat} {keys opt : List ByteArray} {tog : List (List ByteArray)} {w : World}
    (hk : Strs X w (.slice a4 n4 d4) keys) (ho : Strs X w (.slice a5 n5 d5) opt) (hg : Groups X w (.slice a6 n6 d6) tog) (hlen : (namesL keys opt tog).length ≤ 1000) :
    Calls Try.prog 17 #[.agg #[c0, c1, c2, c3, .slice a4 n4 d4, .slice a5 n5 d5, .slice a6 n6 d6, c7, c8, c9, c10]] w fun e w' => ∃ s, e = .returned s ∧ w'.ownsRow w.heap.size 9 1 s (namesL keys opt tog).length ((namesL keys opt tog).map .string) ∧ Below w.heap.size w w' := by
  have HK : Hid (Strs X w (.slice a4 n4 d4) keys) := hk
  have HO : Hid (Strs X w (.slice a5 n5 d5) opt) := ho
  have HG : Hid (Groups X w (.slice a6 n6 d6) tog) := hg
  clear hk ho hg
  go_enter Try.func17, Try.ntmps17
  go_wp2_with fail
  have hka : ∀ A, Keep X w (w.alloc A) := fun A => (Keep.refl _ _).alloc _
  refine (names41 (HK.out.keep (hka _)) (HO.out.keep (hka _)) (HG.out.keep (hka _)) hlen).mono ?_
  rintro e w1 ⟨s, rfl, hs, hb⟩
  have HS : Hid (w1.ownsRow _ 9 1 s (namesL keys opt tog).length ((namesL keys opt tog).map .string)) := hs
  have HB : Hid (Below _ _ w1) := hb
  clear hs hb
  go_wp2
  go_ret
  exact ⟨_, rfl, ownsRow_base HS.out (by simp), ((Below.refl _ _).alloc (Nat.le_refl _) _).trans (HB.out.mono (by simp))⟩
end Go.Proofs.Qxb6601023a
