/-
  OWN WORK. What a form looks like in memory: the tree (plain data), and 'this value, in this world, is that tree'.
-/
import Derived.Below
import Derived.Laws.OwnMore
import Derived.Laws.StructEq
namespace Go.Proofs.Qxb6601023a
open Go Go.RowKit

/-- One table of a form; its subtables are of type α. -/
structure FNode (α : Type) where
  name : ByteArray
  array : Bool
  needed : ByteArray
  left : ByteArray
  keys : List ByteArray
  optional : List ByteArray
  together : List (List ByteArray)
  oneOf : List ByteArray
  counts : List (ByteArray × ByteArray × Int)
  bases : List ByteArray
  tables : List α

/-- Trees of depth at most n. -/
def FTree : Nat → Type
  | 0 => Empty
  | n + 1 => FNode (FTree n)

/-- 'v' owns the row 'xs', which lies in none of the blocks X. -/
def Own (X : List Nat) (w : World) (e size : Nat) (v : Value) (n : Nat) (xs : List Value) : Prop :=
  w.ownsRow 0 e size v n xs ∧ (∀ g, v.ownBlock = some g → g ∉ X) ∧ (n = 0 → v = .slice none 0 0)

/-- The world has grown, and of what was there nothing has turned but in the blocks X. -/
structure Keep (X : List Nat) (w w' : World) : Prop where
  size : w.heap.size ≤ w'.heap.size
  block : ∀ k, k < w.heap.size → k ∉ X → w'.heap[k]? = w.heap[k]?

theorem Keep.refl (X : List Nat) (w : World) : Keep X w w := ⟨Nat.le_refl _, fun _ _ _ => rfl⟩
theorem Keep.trans {X : List Nat} {a b c : World} (h : Keep X a b) (k : Keep X b c) : Keep X a c :=
  ⟨Nat.le_trans h.size k.size, fun i hi hx => (k.block i (Nat.lt_of_lt_of_le hi h.size) hx).trans (h.block i hi hx)⟩
theorem Keep.below {X : List Nat} {a w w' : World} (h : Keep X a w) (hb : Below w.heap.size w w') : Keep X a w' :=
  h.trans ⟨hb.size, fun k hk _ => hb.block k hk⟩
theorem Keep.drew {X : List Nat} {a w : World} (h : Keep X a w) : Keep X a w.drew := ⟨h.size, h.block⟩
theorem Keep.alloc {X : List Nat} {a w : World} (h : Keep X a w) (o : Obj) : Keep X a (w.alloc o) :=
  h.trans ⟨by simp, fun k hk _ => Below.heap_alloc _ _ _ hk⟩
theorem Keep.setCell {X : List Nat} {a w : World} (h : Keep X a w) (p : Addr) (hp : p.block ∈ X) (u : Value) : Keep X a (w.setCell p u) :=
  h.trans ⟨by simp [World.setCell], fun k _ hx => Below.heap_setCell _ _ _ _ (fun e => hx (e ▸ hp))⟩
theorem Keep.of_below {X : List Nat} {w w' : World} (hb : Below w.heap.size w w') : Keep X w w' := (Keep.refl X w).below hb

section
variable {X X' : List Nat} {w w' : World} {e size n : Nat} {v : Value} {xs : List Value}

theorem Own.lt (h : Own X w e size v n xs) {g : Nat} (hg : v.ownBlock = some g) : g < w.heap.size := (h.1.lt g hg).2
theorem ownsRow_keep {base : Nat} (h : w.ownsRow base e size v n xs) (k : Keep X w w') (hx : ∀ g, v.ownBlock = some g → g ∉ X) : w'.ownsRow base e size v n xs := by
  refine ⟨h.1, ?_⟩
  rcases h.2 with hn | ⟨g, cap, cur, hv, hb, hg, rest⟩
  · exact .inl hn
  · refine .inr ⟨g, cap, cur, hv, hb, ?_, rest⟩
    have hlt : g < w.heap.size := by
      rcases Nat.lt_or_ge g w.heap.size with hlt | hge
      · exact hlt
      · rw [Array.getElem?_eq_none hge] at hg; cases hg
    rw [k.block g hlt (hx g (by rw [hv]; rfl))]
    exact hg
theorem ownsRow_zero {base : Nat} (h : w.ownsRow base e size v n xs) : w.ownsRow 0 e size v n xs :=
  ⟨h.1, h.2.elim (fun h => .inl h) fun ⟨g, cap, cur, hv, _, rest⟩ => .inr ⟨g, cap, cur, hv, Nat.zero_le _, rest⟩⟩
theorem Own.keep (h : Own X w e size v n xs) (k : Keep X w w') : Own X w' e size v n xs := ⟨ownsRow_keep h.1 k h.2.1, h.2⟩
/-- More blocks may be shut out that were not there yet. -/
theorem Own.shift (h : Own X w e size v n xs) (hx : ∀ k ∈ X', k ∈ X ∨ w.heap.size ≤ k) : Own X' w e size v n xs :=
  ⟨h.1, fun g hg hm => (hx g hm).elim (h.2.1 g hg) (fun hle => by have := h.lt hg; omega), h.2.2⟩
theorem Own.nil (X : List Nat) (w : World) (e size : Nat) : Own X w e size (.slice none 0 0) 0 [] := ⟨World.ownsRow_nil _ _ _ _, (fun _ h => by cases h), fun _ => rfl⟩
theorem blk_top (w : World) (o : Obj) {B : Nat} (h : w.heap.size = B) : (w.alloc o).heap[B]? = some o := by
  subst h; exact heap_alloc_new w o
theorem blk_under {w : World} (o : Obj) {B : Nat} {x : Option Obj} (hB : B < w.heap.size) (h : w.heap[B]? = x) : (w.alloc o).heap[B]? = x := by
  rw [heap_alloc_old w o B hB]; exact h
/-- A block that is known whole. -/
theorem ownsRow_block {w : World} {e size n B : Nat} {cs : Array Value} {xs : List Value} (hb : w.heap[B]? = some (.cells cs e (0, 0))) (hm : n ≤ maxLen) (hs : cs.size = n * size) (hx : cs.toList = xs) :
    w.ownsRow 0 e size (.slice (some ⟨B, 0, none⟩) n n) n xs := by
  subst hx
  exact ⟨by simpa using hs, .inr ⟨B, n, cs, rfl, Nat.zero_le _, hb, Nat.le_refl _, hm, hs, List.take_of_length_le (by simp [hs])⟩⟩
theorem Own.of_block {X : List Nat} {w : World} {e size n B : Nat} {cs : Array Value} {xs : List Value} (hb : w.heap[B]? = some (.cells cs e (0, 0))) (hX : B ∉ X) (hm : n ≤ maxLen) (hs : cs.size = n * size) (hx : cs.toList = xs) (hpos : 0 < n := by first | decide | omega) :
    Own X w e size (.slice (some ⟨B, 0, none⟩) n n) n xs := by
  refine ⟨ownsRow_block hb hm hs hx, fun g hg => ?_, (fun h0 => absurd h0 (by omega))⟩
  have : B = g := by simpa [Value.ownBlock] using hg
  exact this ▸ hX
/-- Its form. -/
theorem Own.form (h : Own X w e size v n xs) : ∃ a c, v = .slice a n c ∧ n ≤ c ∧ c ≤ maxLen := by
  rcases h.1.2 with ⟨hv, hn⟩ | ⟨g, cap, cur, hv, hb, hg, h1, h2, _⟩
  · subst hn; exact ⟨none, 0, hv, Nat.le_refl _, Nat.zero_le _⟩
  · exact ⟨_, cap, hv, h1, h2⟩
theorem Own.pos (h : Own X w e size v n xs) (hn : 0 < n) : ∃ g c, v = .slice (some ⟨g, 0, none⟩) n c ∧ n ≤ c ∧ c ≤ maxLen ∧ g < w.heap.size ∧ g ∉ X ∧ ∀ j, j < n * size → w.cell? ⟨g, j, none⟩ = xs[j]? := by
  rcases h.1.2 with ⟨hv, h0⟩ | ⟨g, cap, cur, hv, hb, hg, h1, h2, h3⟩
  · omega
  · subst hv
    exact ⟨g, cap, rfl, h1, h2, h.lt rfl, h.2.1 g rfl, fun j hj => h.1.cellAt j hj⟩
end

def Strs (X : List Nat) (w : World) (s : Value) (l : List ByteArray) : Prop := Own X w 9 1 s l.length (l.map .string)
def Bases (X : List Nat) (w : World) (s : Value) (l : List ByteArray) : Prop := Own X w 54 1 s l.length (l.map .string)
def cellsOfCount (c : ByteArray × ByteArray × Int) : List Value := [.string c.1, .string c.2.1, .int .i64 c.2.2]
def Counts (X : List Nat) (w : World) (s : Value) (l : List (ByteArray × ByteArray × Int)) : Prop := Own X w 57 3 s l.length (l.flatMap cellsOfCount)
def Groups (X : List Nat) (w : World) (s : Value) (gs : List (List ByteArray)) : Prop :=
  ∃ vs : List Value, Own X w 24 1 s gs.length vs ∧ vs.length = gs.length ∧ ∀ (i : Nat) (v : Value) (l : List ByteArray), vs[i]? = some v → gs[i]? = some l → Strs X w v l
def Forms {T : Type} (F : Value → T → Prop) (X : List Nat) (w : World) (s : Value) (ts : List T) : Prop :=
  ∃ css : List (List Value), Own X w 30 11 s ts.length css.flatten ∧ css.length = ts.length ∧ ∀ (i : Nat) (cs : List Value) (t : T), css[i]? = some cs → ts[i]? = some t → cs.length = 11 ∧ F (.agg cs.toArray) t

/-- THIS VALUE, IN THIS WORLD, IS THAT TREE; none of its memory lies in the blocks X. -/
def FormIs (X : List Nat) : (n : Nat) → World → Value → FTree n → Prop
  | 0, _, _, t => nomatch t
  | n + 1, w, v, t => ∃ sk so st s1 sc sb sf, v = .agg #[.string t.name, .bool t.array, .string t.needed, .string t.left, sk, so, st, s1, sc, sb, sf] ∧
      Strs X w sk t.keys ∧ Strs X w so t.optional ∧ Groups X w st t.together ∧ Strs X w s1 t.oneOf ∧ Counts X w sc t.counts ∧ Bases X w sb t.bases ∧
      Forms (FormIs X n w) X w sf t.tables

section
variable {X X' : List Nat} {w w' : World}
theorem Strs.keep {s : Value} {l : List ByteArray} (h : Strs X w s l) (k : Keep X w w') : Strs X w' s l := Own.keep h k
theorem Bases.keep {s : Value} {l : List ByteArray} (h : Bases X w s l) (k : Keep X w w') : Bases X w' s l := Own.keep h k
theorem Counts.keep {s : Value} {l} (h : Counts X w s l) (k : Keep X w w') : Counts X w' s l := Own.keep h k
theorem Groups.keep {s : Value} {l} (h : Groups X w s l) (k : Keep X w w') : Groups X w' s l :=
  let ⟨vs, h1, h2, h3⟩ := h
  ⟨vs, h1.keep k, h2, fun i v l hv hl => (h3 i v l hv hl).keep k⟩
theorem Forms.keep {T : Type} {F F' : Value → T → Prop} {s : Value} {ts : List T} (h : Forms F X w s ts) (k : Keep X w w') (hF : ∀ v t, F v t → F' v t) : Forms F' X w' s ts :=
  let ⟨css, h1, h2, h3⟩ := h
  ⟨css, h1.keep k, h2, fun i cs t hc ht => let ⟨a, b⟩ := h3 i cs t hc ht; ⟨a, hF _ _ b⟩⟩
theorem FormIs.keep : ∀ {n : Nat} {v : Value} {t : FTree n}, FormIs X n w v t → Keep X w w' → FormIs X n w' v t
  | 0, _, t, _, _ => nomatch t
  | _ + 1, _, _, ⟨sk, so, st, s1, sc, sb, sf, hv, h1, h2, h3, h4, h5, h6, h7⟩, k =>
    ⟨sk, so, st, s1, sc, sb, sf, hv, h1.keep k, h2.keep k, h3.keep k, h4.keep k, h5.keep k, h6.keep k, h7.keep k fun _ _ h => FormIs.keep h k⟩

theorem Strs.shift {s : Value} {l : List ByteArray} (h : Strs X w s l) (hx : ∀ k ∈ X', k ∈ X ∨ w.heap.size ≤ k) : Strs X' w s l := Own.shift h hx
theorem Bases.shift {s : Value} {l : List ByteArray} (h : Bases X w s l) (hx : ∀ k ∈ X', k ∈ X ∨ w.heap.size ≤ k) : Bases X' w s l := Own.shift h hx
theorem Counts.shift {s : Value} {l} (h : Counts X w s l) (hx : ∀ k ∈ X', k ∈ X ∨ w.heap.size ≤ k) : Counts X' w s l := Own.shift h hx
theorem Groups.shift {s : Value} {l} (h : Groups X w s l) (hx : ∀ k ∈ X', k ∈ X ∨ w.heap.size ≤ k) : Groups X' w s l :=
  let ⟨vs, h1, h2, h3⟩ := h
  ⟨vs, h1.shift hx, h2, fun i v l hv hl => (h3 i v l hv hl).shift hx⟩
theorem Forms.shift {T : Type} {F F' : Value → T → Prop} {s : Value} {ts : List T} (h : Forms F X w s ts) (hx : ∀ k ∈ X', k ∈ X ∨ w.heap.size ≤ k) (hF : ∀ v t, F v t → F' v t) : Forms F' X' w s ts :=
  let ⟨css, h1, h2, h3⟩ := h
  ⟨css, h1.shift hx, h2, fun i cs t hc ht => let ⟨a, b⟩ := h3 i cs t hc ht; ⟨a, hF _ _ b⟩⟩
theorem FormIs.shift : ∀ {n : Nat} {v : Value} {t : FTree n}, FormIs X n w v t → (∀ k ∈ X', k ∈ X ∨ w.heap.size ≤ k) → FormIs X' n w v t
  | 0, _, t, _, _ => nomatch t
  | _ + 1, _, _, ⟨sk, so, st, s1, sc, sb, sf, hv, h1, h2, h3, h4, h5, h6, h7⟩, k =>
    ⟨sk, so, st, s1, sc, sb, sf, hv, h1.shift k, h2.shift k, h3.shift k, h4.shift k, h5.shift k, h6.shift k, h7.shift k fun _ _ h => FormIs.shift h k⟩
end

end Go.Proofs.Qxb6601023a
