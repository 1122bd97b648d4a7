/-
  OWN WORK. differences: the changes, collected by two ranges over maps, then sorted.
-/
import Derived.Test.Qxb6603884aRow
import Derived.Test.Qxb6603884aLib
namespace Go.Proofs.Qxb6603884a
open Go Go.RowKit
set_option linter.unusedVariables false
set_option linter.unusedSimpArgs false

theorem Bs.text {w : World} {v : Value} (h : Bs w v) : ∃ xs : List Int, (convert 31 9 v).run Try.prog w = .ok (.string (strOfNums xs)) w := by
  obtain ⟨a, n, c, rfl, h1, h2⟩ := h
  cases n with
  | zero =>
    refine ⟨[], ?_⟩
    rw [run_convert_bytes_string w 31 9 5 _ 0 c Try.underlying31 Try.underlying5 Try.underlying9]
    cases a <;> simp [Conv.bytesToString, loadCells]
    all_goals rfl
  | succ n =>
    obtain ⟨b, off, rfl, _⟩ := h2 0 (by omega)
    let f : Nat → Int := fun k => match w.cell? ⟨b, off + k, none⟩ with
      | some (.int _ x) => x
      | _ => 0
    refine ⟨(List.range (n + 1)).map f, run_convert_bytes_arg w 31 5 Try.underlying31 Try.underlying5 b off (n + 1) c _ (by simp) (fun i hi => ?_) 9 Try.underlying9⟩
    obtain ⟨b', off', e, _, x, hx⟩ := h2 i hi
    cases e
    rw [hx]
    simp [List.getD, hi, f, hx]

/-- bytes.Equal gives some bool. -/
theorem equal15 {w : World} {v1 v2 : Value} (h1 : Bs w v1) (h2 : Bs w v2) : Calls Try.prog 15 #[v1, v2] w fun e w' => (∃ b, e = .returned (.bool b)) ∧ w' = w := by
  obtain ⟨xs, hx⟩ := h1.text
  obtain ⟨ys, hy⟩ := h2.text
  exact (Try.bytes_Equal v1 v2 xs ys w hx hy).mono fun e w' ⟨h, h'⟩ => ⟨⟨_, h⟩, h'⟩

/-- 'x' does not come behind 'y'. -/
def Le (x y : Ch) : Prop := ¬ Lib.compareBytes y.1.data.toList x.1.data.toList < 0
def SortOk : Prop := ∀ (w : World) (B : Nat) (s : Value) (l : List Ch), Row B w s l → l.length ≤ 200000 →
  Calls Try.prog 16 #[s, .func (.func 17) #[] #[]] w fun e w' => e = .returned (.tuple #[]) ∧ ∃ l', l'.Perm l ∧ l'.Pairwise Le ∧ RdC w' s l' ∧ w.grownBy w' s.ownBlock

/-- What each change is. -/
def Ok (Dw : DataW Value) (l : List Ch) : Prop := ∀ p ∈ l, p.1.size ≤ maxLen ∧ ((has Dw p.1 = true ∧ sl p.2 = val Dw p.1) ∨ (has Dw p.1 = false ∧ sl p.2 = .slice none 0 0))
def keys (l : List Ch) : List (List UInt8) := l.map fun p => p.1.data.toList
/-- Where 'have' holds nothing: the changes' paths are the keys of 'want' that are no longer to come. -/
def Coll (Dh Dw : DataW Value) (left : Lit → Bool) (l : List Ch) : Prop := (∀ k, has Dh k = false) → Collected Dw left (keys l)
theorem Ok.push {Dw : DataW Value} {l : List Ch} (h : Ok Dw l) {p : Ch} (hp : p.1.size ≤ maxLen ∧ ((has Dw p.1 = true ∧ sl p.2 = val Dw p.1) ∨ (has Dw p.1 = false ∧ sl p.2 = .slice none 0 0))) : Ok Dw (l ++ [p]) := by
  intro q hq
  rcases List.mem_append.1 hq with hq | hq
  · exact h q hq
  · rw [List.mem_singleton] at hq
    rw [hq]
    exact hp
theorem Coll.push {Dh Dw : DataW Value} {left : Lit → Bool} {l : List Ch} (h : Coll Dh Dw left l) {p : Ch} {y : DataW Value} (hl : left (.string p.1.data.toList) = true) (hat : ∀ zd, Dw.atKey (.string p.1.data.toList) zd = y) :
    Coll Dh Dw (fun z => left z && !z.sameKey (.string p.1.data.toList)) (l ++ [p]) := by
  intro h0
  have := (h h0).step hl hat
  unfold keys
  rw [List.map_append]
  exact this

def Inv1 (w : World) (hv wv : Value) (Dh Dw : DataW Value) (s : Value) (wr : World) : Prop :=
  ∃ l left cnt, Row (w.heap.size + 1) wr s l ∧ Rg wr wv w.heap.size Dw left cnt ∧ Below w.heap.size w wr ∧ w.heap.size + 1 ≤ wr.heap.size ∧ Ok Dw l ∧ l.length + cnt ≤ Maps.size Dw ∧ Coll Dh Dw left l
def Inv2 (w : World) (hv wv : Value) (Dh Dw : DataW Value) (r : Nat) (s : Value) (wr : World) : Prop :=
  ∃ l left cnt, Row (w.heap.size + 1) wr s l ∧ Rg wr hv r Dh left cnt ∧ Below w.heap.size w wr ∧ w.heap.size + 1 ≤ wr.heap.size ∧ Ok Dw l ∧ l.length + cnt ≤ Maps.size Dw + Maps.size Dh ∧ s.ownBlock ≠ some r ∧ Coll Dh Dw (fun _ => false) l
def Post13 (w : World) (Dh Dw : DataW Value) (e : Ending) (w' : World) : Prop :=
  ∃ s l, e = .returned s ∧ RdC w' s l ∧ Below w.heap.size w w' ∧ Ok Dw l ∧ l.length ≤ 200000 ∧ l.Pairwise Le ∧ Coll Dh Dw (fun _ => false) l

theorem mp_lt {w : World} {m : Value} {D : DataW Value} (h : Mp w m D) {b : Nat} (e : m = .map (some b)) : b < w.heap.size := by
  rcases h with ⟨h, _⟩ | ⟨b', n, h, ho⟩
  · rw [h] at e; cases e
  · rw [h] at e; cases e; exact ho.lt

theorem row_step {w w1 : World} {r : Nat} {s : Value} {l : List Ch} (h : Row (r + 1) w s l) (hg : w.grownBy w1 (some r)) : Row (r + 1) w1 s l := by
  refine World.ownsRow.kept h hg ?_
  cases e : s.ownBlock with
  | none => exact .inl rfl
  | some g =>
    refine .inr fun e2 => ?_
    cases e2
    have := (World.ownsRow.lt h _ e).1
    omega

def Good (Dw : DataW Value) (p : Ch) : Prop := p.1.size ≤ maxLen ∧ ((has Dw p.1 = true ∧ sl p.2 = val Dw p.1) ∨ (has Dw p.1 = false ∧ sl p.2 = .slice none 0 0))
theorem rg_push {B : Nat} {w w1 w3 : World} {m u : Value} {D : DataW Value} {left : Lit → Bool} {cnt r : Nat} {o : Obj} {l : List Ch} (hM : Mp w m D) (hB : w.heap.size = B) (hrg : Rg w1 m r D left cnt) (hrow : Row (B + 1) w1 u l) (hr : u.ownBlock ≠ some r) (hg : (w1.alloc o).grownBy w3 u.ownBlock) : Rg w3 m r D left cnt := by
  refine (hrg.kept (World.grownBy_alloc w1 o none) (fun b _ h => by cases h) (fun h => by cases h)).kept hg (fun b hb e => ?_) hr
  have h1 := mp_lt hM hb
  have h2 := (World.ownsRow.lt hrow b e).1
  omega
theorem below_push {B : Nat} {w w1 w3 : World} {u : Value} {o : Obj} {l : List Ch} (hb : Below B w w1) (hsz : B + 1 ≤ w1.heap.size) (hrow : Row (B + 1) w1 u l) (hg : (w1.alloc o).grownBy w3 u.ownBlock) : Below B w w3 ∧ B + 1 ≤ w3.heap.size := by
  refine ⟨(hb.alloc (by omega) o).grown hg (by simp; omega) (fun b e => ?_), ?_⟩
  · have := (World.ownsRow.lt hrow b e).1
    omega
  · have h1 := hg.size
    simp at h1
    omega
theorem inv1_push {w w1 w3 : World} {hv wv u v' : Value} {Dh Dw : DataW Value} {left : Lit → Bool} {cnt : Nat} {o : Obj} {l : List Ch} {p : Ch} (hM : Mp w wv Dw) (hrg : Rg w1 wv w.heap.size Dw left cnt) (hrow : Row (w.heap.size + 1) w1 u l) (hb : Below w.heap.size w w1) (hsz : w.heap.size + 1 ≤ w1.heap.size)
    (hok : Ok Dw l) (hp : Good Dw p) (hcnt : l.length + cnt + 1 ≤ Maps.size Dw) (hco : Coll Dh Dw left (l ++ [p])) (hrow3 : Row (w.heap.size + 1) w3 v' (l ++ [p])) (hg : (w1.alloc o).grownBy w3 u.ownBlock) : Inv1 w hv wv Dh Dw v' w3 ∧ rgLeft wv w.heap.size w3 = cnt := by
  have h1 := rg_push hM rfl hrg hrow (fun e => by have := (World.ownsRow.lt hrow _ e).1; omega) hg
  have h2 := below_push hb hsz hrow hg
  exact ⟨⟨_, _, _, hrow3, h1, h2.1, h2.2, hok.push hp, by simp; omega, hco⟩, h1.left_eq⟩
theorem row_kept {B r : Nat} {w w1 : World} {s : Value} {l : List Ch} (h : Row B w s l) (hr : s.ownBlock ≠ some r) (hg : w.grownBy w1 (some r)) : Row B w1 s l := by
  refine World.ownsRow.kept h hg ?_
  cases e : s.ownBlock with
  | none => exact .inl rfl
  | some g => exact .inr fun e2 => hr (by rw [e]; exact e2)
theorem Ok.perm {Dw : DataW Value} {l l' : List Ch} (h : Ok Dw l) (hp : l'.Perm l) : Ok Dw l' := fun p hm => h p (hp.mem_iff.1 hm)
theorem Coll.perm {Dh Dw : DataW Value} {left : Lit → Bool} {l l' : List Ch} (h : Coll Dh Dw left l) (hp : l'.Perm l) : Coll Dh Dw left l' := by
  intro h0
  have h1 := h h0
  have hk : (keys l').Perm (keys l) := hp.map _
  exact ⟨hk.nodup_iff.2 h1.1, fun x => by rw [hk.mem_iff]; exact h1.2 x⟩
theorem inv2_push {w w1 w3 : World} {hv wv u v' : Value} {Dh Dw : DataW Value} {left : Lit → Bool} {cnt r : Nat} {o : Obj} {l : List Ch} {p : Ch} (hM : Mp w hv Dh) (hrg : Rg w1 hv r Dh left cnt) (hrow : Row (w.heap.size + 1) w1 u l) (hb : Below w.heap.size w w1) (hsz : w.heap.size + 1 ≤ w1.heap.size) (hr : u.ownBlock ≠ some r)
    (hok : Ok Dw l) (hp : Good Dw p) (hcnt : l.length + cnt + 1 ≤ Maps.size Dw + Maps.size Dh) (hco : Coll Dh Dw (fun _ => false) (l ++ [p])) (hrow3 : Row (w.heap.size + 1) w3 v' (l ++ [p])) (hg : (w1.alloc o).grownBy w3 u.ownBlock) (hat : v'.ownBlock = u.ownBlock ∨ v'.ownBlock = some (w1.heap.size + 1)) : Inv2 w hv wv Dh Dw r v' w3 ∧ rgLeft hv r w3 = cnt := by
  have h1 := rg_push hM rfl hrg hrow hr hg
  have h2 := below_push hb hsz hrow hg
  refine ⟨⟨_, _, _, hrow3, h1, h2.1, h2.2, hok.push hp, by simp; omega, ?_, hco⟩, h1.left_eq⟩
  rcases hat with h | h
  · rw [h]; exact hr
  · rw [h]
    intro e
    cases e
    have := hrg.lt
    omega

set_option maxRecDepth 100000 in
set_option maxHeartbeats 1000000 in
theorem diff13 (hsort : SortOk) {w : World} {hv wv : Value} {Dh Dw : DataW Value} (hh : Mv w hv Dh) (hw : Mv w wv Dw) (sh : Maps.size Dh ≤ 65536) (sw : Maps.size Dw ≤ 65536) :
    Calls Try.prog 13 #[hv, wv] w (Post13 w Dh Dw) := by
  have HS := hide hsort
  have HH := hide hh
  have HW := hide hw
  clear hsort hh hw
  go_enter Try.func13, Try.ntmps13
  go_wp2_with (at_range; (refine wpl_range rfl _ rfl rfl (unhide HW).1 ?_; intro w0 hrg0 hg0 hs0))
  have HR0 := hide hrg0
  have HG0 := hide hg0
  have HS0 := hide hs0
  clear hrg0 hg0 hs0
  go_frame
  go_loopw [5] (fun s wr => Inv1 w hv wv Dh Dw s wr) (fun _ wr => rgLeft wv w.heap.size wr)
  case atStart =>
    exact ⟨[], _, _, World.ownsRow_nil _ _ _ _, unhide HR0, (Below.refl _ _).grown (unhide HG0) (Nat.le_refl _) (fun j hj => by cases hj), by have := unhide HS0; omega, fun p hp => by simp at hp, by simp, fun _ => Collected.start _⟩
  case round =>
    obtain ⟨l, left, cnt, hrow, hrg, hbel, hsz, hok, hcnt, hcoll⟩ := hrel
    have HRow := hide hrow
    have HRg := hide hrg
    have HBel := hide hbel
    have HOk := hide hok
    have HCo := hide hcoll
    have HLe := hide (Rg.left_eq hrg)
    clear hrow hbel hok hcoll
    go_wp2_with (at_next; (refine wpl_next rfl _ rfl rfl hrg ?_ ?_))
    · intro hl0
      clear hrg
      have hwm := ((unhide HH).below (unhide HBel)).1
      have HE0 : Hid (∀ w0, wr.grownBy w0 none → Rg w0 hv wr.heap.size Dh (Maps.has Dh) (Maps.size Dh) → w0.heap.size = wr.heap.size + 1 → Inv2 w hv wv Dh Dw wr.heap.size u5 w0) := by
        intro w0 hg hr hs
        have hrow : Row (w.heap.size + 1) wr u5 l := unhide HRow
        refine ⟨l, _, _, World.ownsRow.kept hrow hg ?_, hr, (unhide HBel).grown hg (unhide HBel).size (fun j hj => by cases hj), by omega, unhide HOk, by omega, fun e => ?_, ?_⟩
        · cases e : u5.ownBlock with
          | none => exact .inl rfl
          | some g => exact .inr fun e2 => by cases e2
        · have := (World.ownsRow.lt hrow _ e).2
          omega
        · have e : left = fun _ => false := funext hl0
          rw [← e]
          exact unhide HCo
      clear hl0
      have hrB := (unhide HBel).size
      clear HRow HRg HBel HOk HCo HLe
      go_wp2_with (at_range; (refine wpl_range rfl _ rfl rfl hwm ?_; intro w4 hrg4 hg4 hs4))
      have HI := hide ((unhide HE0) w4 hg4 hrg4 hs4)
      clear hrg4 hg4 hs4 HE0 hwm hsz hcnt
      generalize wr.heap.size = r at HI hrB ⊢
      go_frame
      go_loopw [5] (fun s wq => Inv2 w hv wv Dh Dw r s wq) (fun _ wq => rgLeft hv r wq)
      case atStart => exact unhide HI
      case round =>
        obtain ⟨l2, left2, cnt2, hrow, hrg, hbel, hsz, hok, hcnt, hne, hcoll⟩ := hrel
        have HRow := hide hrow
        have HRg := hide hrg
        have HBel := hide hbel
        have HOk := hide hok
        have HCo := hide hcoll
        have HNe := hide hne
        have HLe := hide (Rg.left_eq hrg)
        clear hrow hbel hok hcoll hne HI
        go_wp2_with (at_next; (refine wpl_next rfl _ rfl rfl hrg ?_ ?_))
        · intro hl0
          clear hrg hl0
          go_wp2_with fail
          refine ((unhide HS) _ _ _ _ (unhide HRow) (by omega)).mono ?_
          rintro e w5 ⟨rfl, l', hperm, hpw, hrd, hg5⟩
          have hpost : ∀ e : Ending, e = .returned u5 → Post13 w Dh Dw e w5 := by
            intro e he
            refine ⟨_, l', he, hrd, (unhide HBel).grown hg5 (unhide HBel).size (fun b e => ?_), (unhide HOk).perm hperm, by rw [hperm.length_eq]; omega, hpw, (unhide HCo).perm hperm⟩
            have := (World.ownsRow.lt (unhide HRow) b e).1
            omega
          have HPost := hide hpost
          clear hperm hpw hrd hg5 hpost
          go_wp2_with fail
          go_ret
          exact (unhide HPost) _ rfl
        · intro s x n c w1 cnt1 hsl hlk hat hrg1 hlt hg1 hs1 hen
          have HRg1 := hide hrg1
          have hb1 : Below w.heap.size w w1 := (unhide HBel).grown hg1 (unhide HBel).size (fun j hj => by cases hj; exact hrB)
          have hw1 := (unhide HW).below hb1
          have hlook := hw1.1.look_ok hsl
          have HB1 := hide hb1
          have hsz1 : w.heap.size + 1 ≤ w1.heap.size := by omega
          have HRow1 := hide (row_kept (unhide HRow) (unhide HNe) hg1)
          have HHas := hide (has_of_at hat)
          have hlen : l2.length + 1 ≤ 1000000 := by omega
          have hcol : ∀ p, Coll Dh Dw (fun _ => false) (l2 ++ [p]) := fun p h0 => by
            have := unhide HHas
            rw [h0] at this
            cases this
          have HCol := hide hcol
          clear hb1 hw1 hrg hrg1 hg1 hs1 hat hlk hcol
          cases hhas : has Dw s with
          | false =>
            rw [hhas] at hlook
            have HPush : Hid (∀ v' w3, Row (w.heap.size + 1) w3 v' (l2 ++ [(s, none, 0, 0)]) → (w1.alloc (.cells #[.string s, .slice none 0 0] 39)).grownBy w3 u5.ownBlock → (v'.ownBlock = u5.ownBlock ∨ v'.ownBlock = some (w1.heap.size + 1)) → Inv2 w hv wv Dh Dw r v' w3 ∧ rgLeft hv r w3 = cnt1) :=
              fun v' w3 h1 h2 h3 => inv2_push (unhide HH).1 (unhide HRg1) (unhide HRow1) (unhide HB1) hsz1 (unhide HNe) (unhide HOk) ⟨hsl, .inr ⟨hhas, rfl⟩⟩ (by omega) ((unhide HCol) _) h1 h2 h3
            clear hhas
            go_wp2_with (at_builtin; (refine wpl_append_one (x := (s, none, 0, 0)) (v := u5) rfl _ _ rfl rfl rfl (w.heap.size + 1) l2 (unhide HRow1) rfl hlen hsz1 ?_; intro v' w3 hown3 hgrow3 hat3))
            have HEnd := hide ((unhide HPush) v' w3 hown3 hgrow3 hat3)
            clear hown3 hgrow3 hat3
            go_roundw
            case rel => exact (unhide HEnd).1
            case measure => rw [(unhide HEnd).2, unhide HLe]; exact hlt
          | true =>
            rw [hhas] at hlook
            clear hhas
            go_wp2_with fail
            go_roundw
            case rel => exact ⟨l2, _, cnt1, unhide HRow1, unhide HRg1, unhide HB1, hsz1, unhide HOk, by omega, unhide HNe, unhide HCo⟩
            case measure => rw [(unhide HRg1).left_eq, unhide HLe]; exact hlt
    · intro s x n c w1 cnt1 hsl hlk hat hrg1 hlt hg1 hs1 hen
      have HRg1 := hide hrg1
      have HG1 := hide hg1
      have HS1 := hide hs1
      have HAt := hide hat
      have HLk := hide hlk
      clear hrg hrg1 hg1 hs1 hat hlk
      have hb1 : Below w.heap.size w w1 := (unhide HBel).grown (unhide HG1) (unhide HBel).size (fun j hj => by cases hj; exact Nat.le_refl _)
      have hh1 := (unhide HH).below hb1
      have hw1 := (unhide HW).below hb1
      have hlook := hh1.1.look_ok hsl
      have HB1 := hide hb1
      have HE := hide (equal15 (hh1.2 s) (hw1.2 s))
      have HV := hide (val_of_at (unhide HAt))
      have HRow1 := hide (row_step (unhide HRow) (unhide HG1))
      have HM := hide (unhide HW).1
      clear hb1 hh1 hw1
      have hsz1 : w.heap.size + 1 ≤ w1.heap.size := by have := unhide HS1; omega
      have hgood : Good Dw (s, x, n, c) := ⟨hsl, .inl ⟨has_of_at (unhide HAt), (unhide HV).symm⟩⟩
      have HGood := hide hgood
      have hlen : l.length + 1 ≤ 1000000 := by omega
      have hco1 := Coll.push (p := (s, x, n, c)) (unhide HCo) (unhide HLk) (unhide HAt)
      have HCo1 := hide hco1
      have HH1 : ∀ v' w3, Row (w.heap.size + 1) w3 v' (l ++ [(s, x, n, c)]) → (w1.alloc (.cells #[.string s, .slice x n c] 39)).grownBy w3 u5.ownBlock → Inv1 w hv wv Dh Dw v' w3 ∧ rgLeft wv w.heap.size w3 = cnt1 :=
        fun v' w3 h1 h2 => inv1_push (unhide HM) (unhide HRg1) (unhide HRow1) (unhide HB1) hsz1 (unhide HOk) hgood (by omega) hco1 h1 h2
      have HPush := hide HH1
      clear HH1 hgood hco1
      cases hhas : has Dh s with
      | false =>
        rw [hhas] at hlook
        clear hhas
        go_wp2_with (at_builtin; (refine wpl_append_one (x := (s, x, n, c)) (v := u5) rfl _ _ rfl rfl rfl (w.heap.size + 1) l (unhide HRow1) rfl hlen hsz1 ?_; intro v' w3 hown3 hgrow3 hat3))
        have hend := (unhide HPush) v' w3 hown3 hgrow3
        have HEnd := hide hend
        clear hown3 hgrow3 hat3 hend
        go_roundw
        case rel => exact (unhide HEnd).1
        case measure => rw [(unhide HEnd).2, unhide HLe]; exact hlt
      | true =>
        have HHas := hide hhas
        rw [hhas] at hlook
        clear hhas
        go_wp2_with fail
        have hcall := unhide HE
        rw [unhide HV] at hcall
        refine hcall.mono ?_
        clear hcall
        rintro e w2 ⟨⟨b, rfl⟩, rfl⟩
        cases b with
        | true =>
          go_wp2_with fail
          go_roundw
          case rel =>
            refine ⟨l, _, cnt1, unhide HRow1, unhide HRg1, unhide HB1, hsz1, unhide HOk, by omega, fun h0 => ?_⟩
            have := unhide HHas
            rw [h0] at this
            cases this
          case measure => rw [(unhide HRg1).left_eq, unhide HLe]; exact hlt
        | false =>
          go_wp2_with (at_builtin; (refine wpl_append_one (x := (s, x, n, c)) (v := u5) rfl _ _ rfl rfl rfl (w.heap.size + 1) l (unhide HRow1) rfl hlen hsz1 ?_; intro v' w3 hown3 hgrow3 hat3))
          have hend := (unhide HPush) v' w3 hown3 hgrow3
          have HEnd := hide hend
          clear hown3 hgrow3 hat3 hend
          go_roundw
          case rel => exact (unhide HEnd).1
          case measure => rw [(unhide HEnd).2, unhide HLe]; exact hlt
end Go.Proofs.Qxb6603884a
