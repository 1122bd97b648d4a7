/-
  OWN WORK. A row of changes (a string and a byte slice each); append onto it; slices of strings, of changes, of byte slices that can be read.
-/
import Derived.Test.Qxb6603884aBase
namespace Go.Proofs.Qxb6603884a
open Go Go.RowKit
set_option linter.unusedVariables false
set_option linter.unusedSimpArgs false

/-- A slice's parts. -/
abbrev Sl := Option Addr × Nat × Nat
def sl (t : Sl) : Value := .slice t.1 t.2.1 t.2.2
/-- A change. -/
abbrev Ch := ByteArray × Sl
def enc (p : Ch) : List Value := [.string p.1, .slice p.2.1 p.2.2.1 p.2.2.2]
def flat (l : List Ch) : List Value := l.flatMap enc
theorem flat_append (l l' : List Ch) : flat (l ++ l') = flat l ++ flat l' := by simp [flat]
theorem flat_length (l : List Ch) : (flat l).length = l.length * 2 := by
  induction l with
  | nil => rfl
  | cons x r ih => simp only [flat, List.flatMap_cons, List.length_append] at *; rw [ih]; simp [enc]; omega
theorem flat_get {l : List Ch} {i : Nat} (hi : i < l.length) : (flat l)[i * 2]? = some (.string l[i].1) ∧ (flat l)[i * 2 + 1]? = some (sl l[i].2) := by
  induction l generalizing i with
  | nil => simp at hi
  | cons x r ih =>
    cases i with
    | zero => exact ⟨rfl, rfl⟩
    | succ i =>
      have h := ih (i := i) (by simpa using hi)
      have e : flat (x :: r) = .string x.1 :: sl x.2 :: flat r := rfl
      rw [e, show (i + 1) * 2 = i * 2 + 1 + 1 by omega]
      exact h

/-- A row of changes of the call's own. -/
def Row (B : Nat) (w : World) (s : Value) (l : List Ch) : Prop := w.ownsRow B 39 2 s l.length (flat l)

theorem run_append_row {P : Program} (w : World) (base : Nat) (t ty e : TypeId) (i : TypeInfo) (z : Value) (size bytes : Nat) (ht : P.underlying t = some (.slice e)) (hi : P.info? e = some i) (hz : i.zero = some z)
    (hsize : i.size = size) (hby : i.bytes = bytes) (hzs : z.cells.size = size) (hsz : 0 < size)
    (v : Value) (n : Nat) (xs : List Value) (hown : w.ownsRow base e size v n xs)
    (b' : Nat) (s : Value) (m : Nat) (news : List Value) (hsrc : w.ownsRow b' e size s m news) (h1 : ∀ u ∈ news, u.oneCell' = true) (hm : 0 < m)
    (h63 : n + m ≤ maxLen) (hbytes : (n + m) * bytes ≤ 140737488355328) (hbase : base ≤ w.heap.size) :
    ∃ v' w', (Builtin.append_ #[t, t] ty #[v, s]).run P w = .ok v' w' ∧ w'.ownsRow base e size v' (n + m) (xs ++ news) ∧ w.grownBy w' v.ownBlock ∧ (v'.ownBlock = v.ownBlock ∨ v'.ownBlock = some w.heap.size) := by
  rcases hsrc.2 with ⟨rfl, rfl⟩ | ⟨g, cap, cur, rfl, _, hg, _, _, _, _⟩
  · omega
  · obtain ⟨v', w', h2, h3, h4, _, h5⟩ := run_append_own_at (P := P) w base t ty e i z size bytes ht hi hz hsize hby hzs hsz v n xs hown ⟨g, 0, none⟩ m cap news hsrc.1 (hsrc.cells (g := g) rfl) h1 h63 hbytes hbase
    exact ⟨v', w', h2, h3, h4, h5⟩

theorem info39 : Try.prog.info? 39 = some Try.t39 := by kernel_rfl
theorem info9 : Try.prog.info? 9 = some Try.t9 := by kernel_rfl
theorem info31 : Try.prog.info? 31 = some Try.t31 := by kernel_rfl
theorem info5 : Try.prog.info? 5 = some Try.t5 := by kernel_rfl
theorem blk_top (w : World) (o : Obj) {B : Nat} (h : w.heap.size = B) : (w.alloc o).heap[B]? = some o := by
  subst h; exact heap_alloc_new w o
theorem ownsRow_block {w : World} {e size n B : Nat} {cs : Array Value} {xs : List Value} (hb : w.heap[B]? = some (.cells cs e (0, 0))) (hm : n ≤ maxLen) (hs : cs.size = n * size) (hx : cs.toList = xs) :
    w.ownsRow 0 e size (.slice (some ⟨B, 0, none⟩) n n) n xs := by
  subst hx
  exact ⟨by simpa using hs, .inr ⟨B, n, cs, rfl, Nat.zero_le _, hb, Nat.le_refl _, hm, hs, List.take_of_length_le (by simp [hs])⟩⟩
/-- A row stays, while nothing turns in its block. -/
theorem ownsRow_stays {base : Nat} {w w' : World} {e size n : Nat} {v : Value} {xs : List Value} (h : w.ownsRow base e size v n xs) (hk : ∀ g, v.ownBlock = some g → w'.heap[g]? = w.heap[g]?) : w'.ownsRow base e size v n xs := by
  refine ⟨h.1, ?_⟩
  rcases h.2 with hn | ⟨g, cap, cur, hv, hb, hg, rest⟩
  · exact .inl hn
  · exact .inr ⟨g, cap, cur, hv, hb, by rw [hk g (by rw [hv]; rfl)]; exact hg, rest⟩
theorem ownsRow_below {base : Nat} {w w' : World} {e size n : Nat} {v : Value} {xs : List Value} (h : w.ownsRow base e size v n xs) (hb : Below w.heap.size w w') : w'.ownsRow base e size v n xs :=
  ownsRow_stays h fun g hg => hb.block g (h.lt g hg).2

/-- append of one change. -/
theorem wpl_append_one {W : World} {x : Ch} {ops : Array Oper} {rest : List Oper} {o : Oper} {a : Act} {Q : Exit → Act → World → Prop} (hgd : o.guard = none) (s y : Operand)
    (ho : o.op = .call { callee := .builtin .append, args := #[s, y], argTypes := #[36, 36] }) {B : Nat} (hy : a.eval y = .slice (some ⟨B, 0, none⟩) 1 1) {v : Value} (hs : a.eval s = v)
    (base : Nat) (l : List Ch) (hown : Row base W v l) (hB : W.heap.size = B) (hl : l.length + 1 ≤ 1000000) (hbase : base ≤ W.heap.size)
    (h : ∀ v' w', Row base w' v' (l ++ [x]) → (W.alloc (.cells #[.string x.1, .slice x.2.1 x.2.2.1 x.2.2.2] 39)).grownBy w' v.ownBlock → (v'.ownBlock = v.ownBlock ∨ v'.ownBlock = some (W.heap.size + 1)) → wpList Try.prog ops Q rest (a.put o.dst v') w') :
    wpList Try.prog ops Q (o :: rest) a (W.alloc (.cells #[.string x.1, .slice x.2.1 x.2.2.1 x.2.2.2] 39)) := by
  refine wpList_plain hgd fun K hK => ?_
  obtain ⟨v', w', hr, h2, h3, h4⟩ := run_append_row (P := Try.prog) (W.alloc (.cells #[.string x.1, .slice x.2.1 x.2.2.1 x.2.2.2] 39)) base 36 o.type 39 Try.t39 (.agg #[.string ⟨#[]⟩, .slice none 0 0]) 2 40 Try.underlying36 info39 (by kernel_rfl) (by kernel_rfl) (by kernel_rfl) rfl (by omega) v l.length (flat l)
    (ownsRow_below hown ((Below.refl _ _).alloc (Nat.le_refl _) _)) 0 (.slice (some ⟨B, 0, none⟩) 1 1) 1 (enc x) (ownsRow_block (blk_top _ _ hB) (by decide) rfl rfl) (by intro u hu; simp [enc] at hu; rcases hu with rfl | rfl <;> rfl) (by omega) (by unfold maxLen; omega) (by omega) (by simp; omega)
  unfold Oper.wp execOp
  simp only [ho, resolve, invoke, builtin, Sem.run_bind, Sem.run_pure, Result.andThen_ok, List.map_toArray, List.map_cons, List.map_nil, hs, hy, hr]
  exact hK _ _ (h v' w' (by unfold Row; rw [flat_append, List.length_append]; simpa [flat] using h2) h3 (by simpa using h4))

/-! ### slices that can be read -/
/-- 's' is a slice of the strings 'l'. -/
def Rd (w : World) (s : Value) (l : List ByteArray) : Prop :=
  ∃ a c, s = .slice a l.length c ∧ l.length ≤ maxLen ∧ (∀ k, (h : k < l.length) → ∃ b off, a = some ⟨b, off, none⟩ ∧ b < w.heap.size ∧ w.cell? ⟨b, off + k, none⟩ = some (.string l[k]))
theorem Rd.below {w w' : World} {s : Value} {l : List ByteArray} (h : Rd w s l) (hb : Below w.heap.size w w') : Rd w' s l := by
  obtain ⟨a, c, e, h1, h2⟩ := h
  refine ⟨a, c, e, h1, fun k hk => ?_⟩
  obtain ⟨b, off, ea, hlt, hc⟩ := h2 k hk
  exact ⟨b, off, ea, Nat.lt_of_lt_of_le hlt hb.size, by rw [hb.cell (p := ⟨b, off + k, none⟩) hlt]; exact hc⟩
/-- 's' is a slice of the byte slices 'l'. -/
def RdV (w : World) (s : Value) (l : List Sl) : Prop :=
  ∃ a c, s = .slice a l.length c ∧ l.length ≤ maxLen ∧ (∀ k, (h : k < l.length) → ∃ b off, a = some ⟨b, off, none⟩ ∧ b < w.heap.size ∧ w.cell? ⟨b, off + k, none⟩ = some (.slice l[k].1 l[k].2.1 l[k].2.2))
theorem RdV.below {w w' : World} {s : Value} {l : List Sl} (h : RdV w s l) (hb : Below w.heap.size w w') : RdV w' s l := by
  obtain ⟨a, c, e, h1, h2⟩ := h
  refine ⟨a, c, e, h1, fun k hk => ?_⟩
  obtain ⟨b, off, ea, hlt, hc⟩ := h2 k hk
  exact ⟨b, off, ea, Nat.lt_of_lt_of_le hlt hb.size, by rw [hb.cell (p := ⟨b, off + k, none⟩) hlt]; exact hc⟩
/-- 's' is a slice of the changes 'l'. -/
def RdC (w : World) (s : Value) (l : List Ch) : Prop :=
  ∃ a c, s = .slice a l.length c ∧ (∀ k, (h : k < l.length) → ∃ b off, a = some ⟨b, off, none⟩ ∧ b < w.heap.size ∧ w.cell? ⟨b, off + k * 2, none⟩ = some (.string l[k].1) ∧ w.cell? ⟨b, off + k * 2 + 1, none⟩ = some (.slice l[k].2.1 l[k].2.2.1 l[k].2.2.2))
theorem rd_of_row {base : Nat} {w : World} {s : Value} {l : List ByteArray} (h : w.ownsRow base 9 1 s l.length (l.map .string)) : Rd w s l := by
  rcases h.2 with ⟨hv, h0⟩ | ⟨g, cap, cur, hv, hb, hg, h1, h2, h3⟩
  · subst hv
    have hl : l = [] := List.eq_nil_of_length_eq_zero h0
    subst hl
    exact ⟨none, 0, rfl, Nat.zero_le _, fun k hk => absurd hk (Nat.not_lt_zero _)⟩
  · subst hv
    refine ⟨_, cap, rfl, by omega, fun k hk => ⟨g, 0, rfl, (h.lt g rfl).2, ?_⟩⟩
    rw [Nat.zero_add, h.cellAt k (by omega), List.getElem?_map, List.getElem?_eq_getElem hk]
    rfl
theorem rdV_of_row {base : Nat} {w : World} {s : Value} {l : List Sl} (h : w.ownsRow base 31 1 s l.length (l.map sl)) : RdV w s l := by
  rcases h.2 with ⟨hv, h0⟩ | ⟨g, cap, cur, hv, hb, hg, h1, h2, h3⟩
  · subst hv
    have hl : l = [] := List.eq_nil_of_length_eq_zero h0
    subst hl
    exact ⟨none, 0, rfl, Nat.zero_le _, fun k hk => absurd hk (Nat.not_lt_zero _)⟩
  · subst hv
    refine ⟨_, cap, rfl, by omega, fun k hk => ⟨g, 0, rfl, (h.lt g rfl).2, ?_⟩⟩
    rw [Nat.zero_add, h.cellAt k (by omega), List.getElem?_map, List.getElem?_eq_getElem hk]
    rfl
end Go.Proofs.Qxb6603884a
