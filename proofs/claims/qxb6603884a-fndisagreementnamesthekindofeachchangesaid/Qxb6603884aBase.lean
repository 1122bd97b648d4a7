/-
  OWN WORK. Maps of byte slices read as 'key to raw slice value'; rows of cells; byte slices.
-/
import Derived.Below
import Derived.Laws.OwnMore
import Derived.Laws.BytesArg
import Derived.Laws.IdiomRangeMap
import Derived.Maps.AppendAt
import Derived.Maps.RangeWalk
import Derived.Maps.Ext
import Derived.StringKeys
import Derived.Sort.KeysCollected
import Derived.Test.Qxb6603884aRows
import Derived.WalkKit
import Derived.ProofKit
namespace Go.Proofs.Qxb6603884a
open Go Go.RowKit
open Go.Maps (Keyed)
set_option linter.unusedVariables false
set_option linter.unusedSimpArgs false

/-- A fact that the walk's own rules do not see. -/
def Hid (p : Prop) : Prop := p
theorem hide {p : Prop} (h : p) : Hid p := h
theorem unhide {p : Prop} (h : Hid p) : p := h

/-! ### maps -/
/-- An element of the map, as it is: the slice itself. -/
def rdr : Value → Option (DataW Value × List MemPlace)
  | .slice a n c => some (.held (.slice a n c), [])
  | _ => none
theorem rdr_inv {v : Value} {y : DataW Value × List MemPlace} (h : rdr v = some y) : (∃ a n c, v = .slice a n c) ∧ y = (.held v, []) := by
  cases v <;> simp [rdr] at h
  exact ⟨⟨_, _, _, rfl⟩, h.symm⟩
def unheld : DataW Value → Value
  | .held v => v
  | _ => .slice none 0 0
/-- The element at a key; nil where there is none. -/
def val (D : DataW Value) (k : ByteArray) : Value := unheld (D.atKey (.string k.data.toList) (.held (.slice none 0 0)))
def has (D : DataW Value) (k : ByteArray) : Bool := Maps.has D (.string k.data.toList)

/-- The map value 'm' reads as 'D' in 'w': a nil one as an empty one. -/
def Mp (w : World) (m : Value) (D : DataW Value) : Prop :=
  (m = .map none ∧ D = .map []) ∨ ∃ b n, m = .map (some b) ∧ w.ownsMap Try.prog 9 rdr b n D

theorem law9 : Keyed Try.prog 9 := Maps.string_keyed Try.underlying9
theorem zero31 (w : World) : (zeroValue 31).run Try.prog w = .ok (.slice none 0 0) w := by kernel_rfl
theorem key9 {s : ByteArray} (hs : s.size ≤ maxLen) : keyOf Try.prog 9 (.string s) = some (.string s.data.toList) := WideMaps.keyOf_string_mk Try.underlying9 hs

theorem Mp.below {w w' : World} {m : Value} {D : DataW Value} (h : Mp w m D) (hb : Below w.heap.size w w') : Mp w' m D := by
  rcases h with h | ⟨b, n, e, h⟩
  · exact .inl h
  · have hlt := h.lt
    obtain ⟨es, clock, hbk, F, hs, hD⟩ := h
    exact .inr ⟨b, n, e, es, clock, (hb.block b hlt).trans hbk, F, hs, hD⟩

theorem unheld_of {v : Value} {d : DataW Value} {ps : List MemPlace} (h : rdr v = some (d, ps)) : v = unheld d := by
  obtain ⟨_, h⟩ := rdr_inv h
  cases h
  rfl

theorem Mp.look_ok {w : World} {m : Value} {D : DataW Value} (h : Mp w m D) {s : ByteArray} (hs : s.size ≤ maxLen) :
    (Instr.lookup 22 m (.string s) true).run Try.prog w = .ok (.tuple #[val D s, .bool (has D s)]) w := by
  rcases h with ⟨rfl, rfl⟩ | ⟨b, n, rfl, h⟩
  · exact Maps.look_nil true law9 Try.underlying22 (zero31 w) (key9 hs)
  · obtain ⟨v, ps, hrun, hv⟩ := h.look_ok law9 Try.underlying22 (zero31 w) (zd := .held (.slice none 0 0)) (zp := []) rfl (key9 hs)
    rw [hrun]
    rw [show v = val D s from unheld_of hv]
    rfl
theorem Mp.look {w : World} {m : Value} {D : DataW Value} (h : Mp w m D) {s : ByteArray} (hs : s.size ≤ maxLen) :
    (Instr.lookup 22 m (.string s) false).run Try.prog w = .ok (val D s) w := by
  rcases h with ⟨rfl, rfl⟩ | ⟨b, n, rfl, h⟩
  · exact Maps.look_nil false law9 Try.underlying22 (zero31 w) (key9 hs)
  · obtain ⟨v, ps, hrun, hv⟩ := h.lookup law9 Try.underlying22 (zero31 w) (zd := .held (.slice none 0 0)) (zp := []) rfl (key9 hs)
    rw [hrun]
    rw [show v = val D s from unheld_of hv]
theorem Mp.len {w : World} {m : Value} {D : DataW Value} (h : Mp w m D) (ty : TypeId) :
    (Builtin.len_ #[22] ty #[m]).run Try.prog w = .ok (.int .i64 (Maps.size D)) w := by
  rcases h with ⟨rfl, rfl⟩ | ⟨b, n, rfl, h⟩
  · exact Maps.len_nil Try.underlying22 ty
  · exact h.len Try.underlying22 ty
theorem Mp.isMap {w : World} {m : Value} {D : DataW Value} (h : Mp w m D) : Maps.IsMap D := by
  rcases h with ⟨rfl, rfl⟩ | ⟨b, n, rfl, h⟩
  · exact ⟨_, rfl⟩
  · exact h.isMap

theorem val_of_not_has {D : DataW Value} {k : ByteArray} (h : has D k = false) : val D k = .slice none 0 0 := by
  unfold val
  rw [Maps.atKey_of_not_has h]
  rfl

/-! ### ranging over a map, a nil one too -/
/-- 'r' is an iterator over 'm', which reads as 'D'; 'left': what is still to come. -/
def Rg (w : World) (m : Value) (r : Nat) (D : DataW Value) (left : Lit → Bool) (cnt : Nat) : Prop :=
  (m = .map none ∧ D = .map [] ∧ (∃ a b s, w.heap[r]? = some (.mapIter none a s b)) ∧ (∀ kl, left kl = false) ∧ cnt = 0) ∨ ∃ b n, m = .map (some b) ∧ w.ranges Try.prog 9 rdr b r n D left cnt
def rgLeft (m : Value) (r : Nat) (w : World) : Nat := match m with
  | .map (some b) => w.rangeLeft b r
  | _ => 0

theorem Rg.mp {w : World} {m : Value} {r : Nat} {D : DataW Value} {left : Lit → Bool} {cnt : Nat} (h : Rg w m r D left cnt) : Mp w m D := by
  rcases h with ⟨h1, h2, _⟩ | ⟨b, n, e, h⟩
  · exact .inl ⟨h1, h2⟩
  · exact .inr ⟨b, n, e, h.owns⟩
theorem Rg.left_eq {w : World} {m : Value} {r : Nat} {D : DataW Value} {left : Lit → Bool} {cnt : Nat} (h : Rg w m r D left cnt) : rgLeft m r w = cnt := by
  rcases h with ⟨rfl, h2, h3, h4, rfl⟩ | ⟨b, n, rfl, h⟩
  · rfl
  · exact h.left_eq
theorem Rg.lt {w : World} {m : Value} {r : Nat} {D : DataW Value} {left : Lit → Bool} {cnt : Nat} (h : Rg w m r D left cnt) : r < w.heap.size := by
  rcases h with ⟨rfl, h2, ⟨a, b, s, h3⟩, h4, rfl⟩ | ⟨b, n, rfl, h⟩
  · exact (Array.getElem?_eq_some_iff.1 h3).1
  · exact h.lt
theorem Rg.kept {w w' : World} {m : Value} {r : Nat} {D : DataW Value} {left : Lit → Bool} {cnt : Nat} {row : Option Nat} (h : Rg w m r D left cnt) (hg : w.grownBy w' row) (hb : ∀ b, m = .map (some b) → row ≠ some b) (hr : row ≠ some r) : Rg w' m r D left cnt := by
  have hlt := h.lt
  rcases h with ⟨rfl, h2, ⟨a, b, s, h3⟩, h4, rfl⟩ | ⟨b, n, rfl, h⟩
  · exact .inl ⟨rfl, h2, ⟨a, b, s, (hg.block r hlt (fun e => hr e.symm)).trans h3⟩, h4, rfl⟩
  · exact .inr ⟨b, n, rfl, h.kept hg (fun e => hb b rfl e.symm) (fun e => hr e.symm)⟩

section
variable {w : World} {ops : Array Oper} {rest : List Oper} {o : Oper} {a : Act} {Q : Exit → Act → World → Prop}
theorem wpl_range {D : DataW Value} {mv : Value} (hg : o.guard = none) (m : Operand) (hop : o.op = Op.range 22 m) (hm : a.eval m = mv) (hM : Mp w mv D)
    (hK : ∀ w', Rg w' mv w.heap.size D (Maps.has D) (Maps.size D) → w.grownBy w' none → w'.heap.size = w.heap.size + 1 → wpList Try.prog ops Q rest (a.put o.dst (.pointer (some ⟨w.heap.size, 0, none⟩))) w') :
    wpList Try.prog ops Q (o :: rest) a w := by
  rcases hM with ⟨rfl, rfl⟩ | ⟨b, n, rfl, h⟩
  · refine wpList_plain hg fun K' hK' => ?_
    unfold Oper.wp
    simp [execOp, hop, hm, run_range_nilMap w 22 9 31 Try.underlying22, Result.andThen]
    exact hK' _ _ (hK _ (.inl ⟨rfl, rfl, ⟨0, 0, #[], (MapKept.heap_alloc w _).1⟩, fun _ => rfl, rfl⟩) (World.grownBy_alloc w _ none) (by simp))
  · exact wpList_range_own w hg m 22 hop 9 31 law9 Try.underlying22 rdr b n D hm h fun w' h1 h2 h3 => hK w' (.inr ⟨b, n, rfl, h1⟩) h2 h3

theorem wpl_next {D : DataW Value} {mv : Value} {r : Nat} {left : Lit → Bool} {cnt : Nat} (hg : o.guard = none) (it : Operand) (hop : o.op = Op.next it false) (hit : a.eval it = .pointer (some ⟨r, 0, none⟩)) (hR : Rg w mv r D left cnt)
    (hDone : (∀ kl, left kl = false) → wpList Try.prog ops Q rest (a.put o.dst (.tuple #[.bool false])) w)
    (hMore : ∀ (s : ByteArray) (x : Option Addr) (n c : Nat) (w' : World) (cnt' : Nat), s.size ≤ maxLen → left (.string s.data.toList) = true → (∀ zd, D.atKey (.string s.data.toList) zd = .held (.slice x n c)) →
      Rg w' mv r D (fun z => left z && !z.sameKey (.string s.data.toList)) cnt' → cnt' < cnt → w.grownBy w' (some r) → w'.heap.size = w.heap.size →
      (Instr.entry (.pointer (some ⟨r, 0, none⟩))).run Try.prog w' = .ok (.tuple #[.string s, .slice x n c]) w' → wpList Try.prog ops Q rest (a.put o.dst (.tuple #[.bool true, .string s, .slice x n c])) w') :
    wpList Try.prog ops Q (o :: rest) a w := by
  rcases hR with ⟨rfl, h2, ⟨p, b, s, h3⟩, h4, rfl⟩ | ⟨b, n, rfl, h⟩
  · refine wpList_plain hg fun K' hK' => ?_
    have hrun : (Instr.next (.pointer (some ⟨r, 0, none⟩)) false o.type).run Try.prog w = .ok (.tuple #[.bool false]) w := by
      simp only [Instr.next, getObj, Sem.run_bind, Sem.run, h3, Result.andThen]
      rfl
    unfold Oper.wp
    simp [execOp, hop, hit, hrun, Result.andThen]
    exact hK' _ _ (hDone h4)
  · refine wpList_next_ranges (α := ByteArray) (β := Option Addr × Nat × Nat) w hg it hop 9 law9 rdr Value.string (fun t => Value.slice t.1 t.2.1 t.2.2) (fun key kl hk => ?_) (fun v y hv => ?_) b r n D left cnt hit h (fun _ h0 => hDone h0) ?_
    · obtain ⟨x, rfl, _, _⟩ := Maps.keyOf_str Try.underlying9 hk
      exact ⟨_, rfl⟩
    · obtain ⟨⟨x, n, c, rfl⟩, _⟩ := rdr_inv hv
      exact ⟨(x, n, c), rfl⟩
    · intro s t kl y w' cnt' hkey hl hv hat hrg hlt hgr hsz hen
      obtain ⟨x, e1, rfl, hx⟩ := Maps.keyOf_str Try.underlying9 hkey
      obtain ⟨_, rfl⟩ := rdr_inv hv
      have e2 : s = ⟨x.toArray⟩ := by simpa [encStr] using e1
      subst e2
      exact hMore ⟨x.toArray⟩ t.1 t.2.1 t.2.2 w' cnt' (by simpa [ByteArray.size] using hx) hl hat (.inr ⟨b, n, rfl, hrg⟩) hlt hgr hsz hen
end
theorem has_of_at {D : DataW Value} {s : ByteArray} {d : DataW Value} (h : ∀ zd, D.atKey (.string s.data.toList) zd = d) : has D s = true := Maps.has_true_of_atKey h
theorem val_of_at {D : DataW Value} {s : ByteArray} {v : Value} (h : ∀ zd, D.atKey (.string s.data.toList) zd = .held v) : val D s = v := by
  unfold val
  rw [h]
  rfl

/-! ### byte slices -/
/-- 'v' is a slice of bytes that can be read in 'w'. -/
def Bs (w : World) (v : Value) : Prop :=
  ∃ a n c, v = .slice a n c ∧ n ≤ maxLen ∧ (∀ k, k < n → ∃ b off, a = some ⟨b, off, none⟩ ∧ b < w.heap.size ∧ ∃ x : Int, w.cell? ⟨b, off + k, none⟩ = some (.int .u8 x))
theorem Bs.below {w w' : World} {v : Value} (h : Bs w v) (hb : Below w.heap.size w w') : Bs w' v := by
  obtain ⟨a, n, c, e, h1, h2⟩ := h
  refine ⟨a, n, c, e, h1, fun k hk => ?_⟩
  obtain ⟨b, off, ea, hlt, x, hc⟩ := h2 k hk
  exact ⟨b, off, ea, Nat.lt_of_lt_of_le hlt hb.size, x, by rw [hb.cell (p := ⟨b, off + k, none⟩) hlt]; exact hc⟩
theorem bs_nil (w : World) : Bs w (.slice none 0 0) := ⟨none, 0, 0, rfl, Nat.zero_le _, fun k hk => absurd hk (Nat.not_lt_zero _)⟩

/-- A map all of whose values can be read. -/
def Mv (w : World) (m : Value) (D : DataW Value) : Prop := Mp w m D ∧ ∀ k, Bs w (val D k)
theorem Mv.below {w w' : World} {m : Value} {D : DataW Value} (h : Mv w m D) (hb : Below w.heap.size w w') : Mv w' m D := ⟨h.1.below hb, fun k => (h.2 k).below hb⟩
theorem mv_nil (w : World) : Mv w (.map none) (.map []) := ⟨.inl ⟨rfl, rfl⟩, fun k => bs_nil w⟩
end Go.Proofs.Qxb6603884a
