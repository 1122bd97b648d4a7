/-
  OWN WORK. append of a whole row (nil or not) onto a row of the call's own.
-/
import Derived.Maps.AppendAt
import Derived.Test.Qxb6601023aRows
import Derived.Test.Qxb6601023aHeap
namespace Go.Proofs.Qxb6601023a
open Go Go.RowKit

theorem run_append_row {P : Program} (w : World) (base : Nat) (t ty e : TypeId) (i : TypeInfo) (z : Value) (size bytes : Nat) (ht : P.underlying t = some (.slice e)) (hi : P.info? e = some i) (hz : i.zero = some z)
    (hsize : i.size = size) (hby : i.bytes = bytes) (hzs : z.cells.size = size) (hsz : 0 < size)
    (v : Value) (n : Nat) (xs : List Value) (hown : w.ownsRow base e size v n xs)
    (b' : Nat) (s : Value) (m : Nat) (news : List Value) (hsrc : w.ownsRow b' e size s m news) (h1 : ∀ u ∈ news, u.oneCell' = true)
    (h63 : n + m ≤ maxLen) (hbytes : (n + m) * bytes ≤ 140737488355328) (hbase : base ≤ w.heap.size) :
    ∃ v' w', (Builtin.append_ #[t, t] ty #[v, s]).run P w = .ok v' w' ∧ w'.ownsRow base e size v' (n + m) (xs ++ news) ∧ w.grownBy w' v.ownBlock ∧ (v'.ownBlock = v.ownBlock ∨ v'.ownBlock = some w.heap.size) := by
  rcases hsrc.2 with ⟨rfl, rfl⟩ | ⟨g, cap, cur, rfl, _, hg, _, _, _, _⟩
  · have hn : news = [] := List.eq_nil_of_length_eq_zero (by simpa using hsrc.1)
    subst hn
    refine ⟨v, w, ?_, by simpa using hown, ⟨rfl, rfl, rfl, Nat.le_refl _, fun _ _ _ => rfl⟩, Or.inl rfl⟩
    rcases hown.2 with ⟨rfl, rfl⟩ | ⟨g, cap, cur, rfl, _, hg, hnc, _⟩
    · simp [Builtin.append_, run_underlying ht, sizeOf, typeInfo, hi, Builtin.lenOf, Builtin.firstCells]
    · simp [Builtin.append_, run_underlying ht, sizeOf, typeInfo, hi, Builtin.lenOf, Builtin.firstCells, hnc, storeCells]
  · obtain ⟨v', w', h2, h3, h4, _, h5⟩ := run_append_own_at (P := P) w base t ty e i z size bytes ht hi hz hsize hby hzs hsz v n xs hown ⟨g, 0, none⟩ m cap news hsrc.1 (hsrc.cells (g := g) rfl) h1 h63 hbytes hbase
    exact ⟨v', w', h2, h3, h4, h5⟩

theorem wpl_append_row {P : Program} {w : World} {ops : Array Oper} {rest : List Oper} {o : Oper} {a : Act} {Q : Exit → Act → World → Prop} (hgd : o.guard = none) (s x : Operand) (t : TypeId)
    (ho : o.op = .call { callee := .builtin .append, args := #[s, x], argTypes := #[t, t] })
    (base : Nat) (e : TypeId) (i : TypeInfo) (z : Value) (size bytes : Nat) (ht : P.underlying t = some (.slice e)) (hi : P.info? e = some i) (hz : i.zero = some z)
    (hsize : i.size = size) (hby : i.bytes = bytes) (hzs : z.cells.size = size) (hsz : 0 < size)
    (v : Value) (n : Nat) (xs : List Value) (hs : a.eval s = v) (hown : w.ownsRow base e size v n xs)
    (b' : Nat) (v2 : Value) (m : Nat) (news : List Value) (hx : a.eval x = v2) (hsrc : w.ownsRow b' e size v2 m news) (h1 : ∀ u ∈ news, u.oneCell' = true)
    (h63 : n + m ≤ maxLen) (hbytes : (n + m) * bytes ≤ 140737488355328) (hbase : base ≤ w.heap.size)
    (h : ∀ v' w', w'.ownsRow base e size v' (n + m) (xs ++ news) → w.grownBy w' v.ownBlock → (v'.ownBlock = v.ownBlock ∨ v'.ownBlock = some w.heap.size) → wpList P ops Q rest (a.put o.dst v') w') :
    wpList P ops Q (o :: rest) a w := by
  refine wpList_plain hgd fun K hK => ?_
  obtain ⟨v', w', hr, h2, h3, h4⟩ := run_append_row (P := P) w base t o.type e i z size bytes ht hi hz hsize hby hzs hsz v n xs hown b' v2 m news hsrc h1 h63 hbytes hbase
  unfold Oper.wp execOp
  simp only [ho, resolve, invoke, builtin, Sem.run_bind, Sem.run_pure, Result.andThen_ok, List.map_toArray, List.map_cons, List.map_nil, hs, hx, hr]
  exact hK _ _ (h v' w' h2 h3 h4)

theorem info9 : Try.prog.info? 9 = some Try.t9 := by kernel_rfl
theorem info30 : Try.prog.info? 30 = some Try.t30 := by kernel_rfl
def zForm : Value := .agg #[.string ⟨#[]⟩, .bool false, .string ⟨#[]⟩, .string ⟨#[]⟩, .slice none 0 0, .slice none 0 0, .slice none 0 0, .slice none 0 0, .slice none 0 0, .slice none 0 0, .slice none 0 0]

/-- Strings onto strings. -/
theorem wpl_append_strs {w : World} {ops : Array Oper} {rest : List Oper} {o : Oper} {a : Act} {Q : Exit → Act → World → Prop} (hgd : o.guard = none) (s x : Operand)
    (ho : o.op = .call { callee := .builtin .append, args := #[s, x], argTypes := #[24, 24] })
    (base : Nat) (v : Value) (n : Nat) (xs : List Value) (hs : a.eval s = v) (hown : w.ownsRow base 9 1 v n xs)
    (b' : Nat) (v2 : Value) (m : Nat) (news : List Value) (hx : a.eval x = v2) (hsrc : w.ownsRow b' 9 1 v2 m news) (h1 : ∀ u ∈ news, u.oneCell' = true)
    (hnm : n + m ≤ 1000000) (hbase : base ≤ w.heap.size)
    (h : ∀ v' w', w'.ownsRow base 9 1 v' (n + m) (xs ++ news) → w.grownBy w' v.ownBlock → (v'.ownBlock = v.ownBlock ∨ v'.ownBlock = some w.heap.size) → wpList Try.prog ops Q rest (a.put o.dst v') w') :
    wpList Try.prog ops Q (o :: rest) a w :=
  wpl_append_row hgd s x 24 ho base 9 Try.t9 (.string ⟨#[]⟩) 1 16 Try.underlying24 info9 (by kernel_rfl) (by kernel_rfl) (by kernel_rfl) rfl (by omega) v n xs hs hown b' v2 m news hx hsrc h1 (by unfold maxLen; omega) (by omega) hbase h

/-- Forms onto forms. -/
theorem wpl_append_forms {w : World} {ops : Array Oper} {rest : List Oper} {o : Oper} {a : Act} {Q : Exit → Act → World → Prop} (hgd : o.guard = none) (s x : Operand)
    (ho : o.op = .call { callee := .builtin .append, args := #[s, x], argTypes := #[28, 28] })
    (base : Nat) (v : Value) (n : Nat) (xs : List Value) (hs : a.eval s = v) (hown : w.ownsRow base 30 11 v n xs)
    (b' : Nat) (v2 : Value) (m : Nat) (news : List Value) (hx : a.eval x = v2) (hsrc : w.ownsRow b' 30 11 v2 m news) (h1 : ∀ u ∈ news, u.oneCell' = true)
    (hnm : n + m ≤ 1000000) (hbase : base ≤ w.heap.size)
    (h : ∀ v' w', w'.ownsRow base 30 11 v' (n + m) (xs ++ news) → w.grownBy w' v.ownBlock → (v'.ownBlock = v.ownBlock ∨ v'.ownBlock = some w.heap.size) → wpList Try.prog ops Q rest (a.put o.dst v') w') :
    wpList Try.prog ops Q (o :: rest) a w :=
  wpl_append_row hgd s x 28 ho base 30 Try.t30 zForm 11 224 Try.underlying28 info30 (by kernel_rfl) (by kernel_rfl) (by kernel_rfl) rfl (by omega) v n xs hs hown b' v2 m news hx hsrc h1 (by unfold maxLen; omega) (by omega) hbase h
end Go.Proofs.Qxb6601023a
