/-
  OWN WORK. Single operations of rulebookForm, by their runs.
-/
import Derived.Test.Qxb6601023aTail18
namespace Go.Proofs.Qxb6601023a
open Go.RowKit Go.Flow
set_option linter.unusedVariables false

section
variable {o : Oper} {a : Act} {w w' : World} {K : Act → World → Prop} {Q : Exit → Act → World → Prop}
theorem op_value {v : Value} (hr : (execOp a.eval o).run Try.prog w = .ok (.value v) w') (h : K (a.put o.dst v) w') : o.wp Try.prog a w K Q := by
  unfold Oper.wp
  rw [hr]
  exact h
theorem eval_const (a : Act) (v : Value) : a.eval (.const v) = v := rfl
theorem op_move {x : Operand} {v : Value} (ho : o.op = .move x) (hx : a.eval x = v) (h : K (a.put o.dst v) w) : o.wp Try.prog a w K Q := by
  refine op_value (v := v) (w' := w) ?_ h
  unfold execOp
  simp only [ho, hx]
  rfl
theorem op_enter {f : FuncId} {args : Array Value} (hr : (execOp a.eval o).run Try.prog w = .ok (.enter f args) w) (hc : Calls Try.prog f args w fun e w'' => ∃ v, e = .returned v ∧ K (a.put o.dst v) w'') : o.wp Try.prog a w K Q := by
  unfold Oper.wp
  rw [hr]
  refine hc.mono ?_
  rintro e w'' ⟨v, rfl, h⟩
  exact h
theorem op_load {t : TypeId} {x : Operand} {p v : Value} (ho : o.op = .load t x) (hx : a.eval x = p) (hr : (Instr.loadAt t p).run Try.prog w = .ok v w) (h : K (a.put o.dst v) w) : o.wp Try.prog a w K Q := by
  refine op_value (v := v) (w' := w) ?_ h
  unfold execOp
  simp only [ho, hx, Sem.run_bind, hr, Result.andThen_ok]
  rfl
theorem op_build {t : TypeId} {parts : Array (Nat × Operand)} {vs : Array (Nat × Value)} {v : Value} (ho : o.op = .build t parts) (hp : (parts.map fun (i, x) => (i, a.eval x)) = vs) (hr : (Instr.build t vs).run Try.prog w = .ok v w) (h : K (a.put o.dst v) w) : o.wp Try.prog a w K Q := by
  refine op_value (v := v) (w' := w) ?_ h
  unfold execOp
  simp only [ho, hp, Sem.run_bind, hr, Result.andThen_ok]
  rfl
theorem op_buildSlice {t : TypeId} {n : Nat} {parts : Array (Nat × Operand)} {vs : Array (Nat × Value)} {v : Value} (ho : o.op = .buildSlice t n parts) (hp : (parts.map fun (i, x) => (i, a.eval x)) = vs) (hr : (Instr.buildSlice t n vs).run Try.prog w = .ok v w') (h : K (a.put o.dst v) w') : o.wp Try.prog a w K Q := by
  refine op_value (v := v) (w' := w') ?_ h
  unfold execOp
  simp only [ho, hp, Sem.run_bind, hr, Result.andThen_ok]
  rfl
/-- A closure that captured one variable, called with two constants. -/
theorem op_closure {x : Operand} {s1 s2 p : Value} {f : FuncId} (ho : o.op = .call { callee := .value x, args := #[.const s1, .const s2], argTypes := #[9, 9] }) (hx : a.eval x = .func (.func f) #[] #[p])
    (hf : ∀ w, (callFunc f #[s1, s2, p]).run Try.prog w = .ok (.enter f #[s1, s2, p]) w)
    (hc : Calls Try.prog f #[s1, s2, p] w fun e w'' => ∃ v, e = .returned v ∧ K (a.put o.dst v) w'') : o.wp Try.prog a w K Q := by
  refine op_enter (f := f) (args := #[s1, s2, p]) ?_ hc
  unfold execOp
  have e1 : a.eval (.const s1) = s1 := rfl
  have e2 : a.eval (.const s2) = s2 := rfl
  simp [ho, resolve, invoke, Deferred.ofValue, hx, hf, e1, e2]
end

theorem run_load30 {w : World} {b : Nat} {c0 c1 c2 c3 c4 c5 c6 c7 c8 c9 c10 : Value} (h : VarB w b #[c0, c1, c2, c3, c4, c5, c6, c7, c8, c9, c10]) :
    (Instr.loadAt 30 (.pointer (some ⟨b, 0, none⟩))).run Try.prog w = .ok (.agg #[c0, c1, c2, c3, c4, c5, c6, c7, c8, c9, c10]) w := by
  obtain ⟨h1, h2, h3⟩ := h
  simp [go_sem, h2]
theorem run_strs1 (w : World) (s : ByteArray) : (Instr.buildSlice 24 1 #[(0, .string s)]).run Try.prog w = .ok (.slice (some ⟨w.heap.size, 0, none⟩) 1 1) (w.alloc (.cells #[.string s] 9)) := by kernel_rfl
theorem run_build_keys (nm lo : ByteArray) (a : Option Addr) (n c : Nat) (w : World) : (Instr.build 30 #[(0, .string nm), (3, .string lo), (4, .slice a n c)]).run Try.prog w =
    .ok (.agg #[.string nm, .bool false, .string k_empty, .string lo, .slice a n c, .slice none 0 0, .slice none 0 0, .slice none 0 0, .slice none 0 0, .slice none 0 0, .slice none 0 0]) w := by kernel_rfl
theorem run_forms2 (w : World) (c0 c1 c2 c3 c4 c5 c6 c7 c8 c9 c10 e0 e1 e2 e3 e4 e5 e6 e7 e8 e9 e10 : Value) :
    (Instr.buildSlice 28 2 #[(0, .agg #[c0, c1, c2, c3, c4, c5, c6, c7, c8, c9, c10]), (1, .agg #[e0, e1, e2, e3, e4, e5, e6, e7, e8, e9, e10])]).run Try.prog w =
    .ok (.slice (some ⟨w.heap.size, 0, none⟩) 2 2) (w.alloc (.cells #[c0, c1, c2, c3, c4, c5, c6, c7, c8, c9, c10, e0, e1, e2, e3, e4, e5, e6, e7, e8, e9, e10] 30)) := by kernel_rfl
theorem run_forms1 (w : World) (c0 c1 c2 c3 c4 c5 c6 c7 c8 c9 c10 : Value) :
    (Instr.buildSlice 28 1 #[(0, .agg #[c0, c1, c2, c3, c4, c5, c6, c7, c8, c9, c10])]).run Try.prog w = .ok (.slice (some ⟨w.heap.size, 0, none⟩) 1 1) (w.alloc (.cells #[c0, c1, c2, c3, c4, c5, c6, c7, c8, c9, c10] 30)) := by kernel_rfl
theorem run_forms3 (w : World) (c0 c1 c2 c3 c4 c5 c6 c7 c8 c9 c10 e0 e1 e2 e3 e4 e5 e6 e7 e8 e9 e10 f0 f1 f2 f3 f4 f5 f6 f7 f8 f9 f10 : Value) :
    (Instr.buildSlice 28 3 #[(0, .agg #[c0, c1, c2, c3, c4, c5, c6, c7, c8, c9, c10]), (1, .agg #[e0, e1, e2, e3, e4, e5, e6, e7, e8, e9, e10]), (2, .agg #[f0, f1, f2, f3, f4, f5, f6, f7, f8, f9, f10])]).run Try.prog w =
    .ok (.slice (some ⟨w.heap.size, 0, none⟩) 3 3) (w.alloc (.cells #[c0, c1, c2, c3, c4, c5, c6, c7, c8, c9, c10, e0, e1, e2, e3, e4, e5, e6, e7, e8, e9, e10, f0, f1, f2, f3, f4, f5, f6, f7, f8, f9, f10] 30)) := by kernel_rfl
theorem run_forms5 (w : World) (c0 c1 c2 c3 c4 c5 c6 c7 c8 c9 c10 e0 e1 e2 e3 e4 e5 e6 e7 e8 e9 e10 f0 f1 f2 f3 f4 f5 f6 f7 f8 f9 f10 g0 g1 g2 g3 g4 g5 g6 g7 g8 g9 g10 h0 h1 h2 h3 h4 h5 h6 h7 h8 h9 h10 : Value) :
    (Instr.buildSlice 28 5 #[(0, .agg #[c0, c1, c2, c3, c4, c5, c6, c7, c8, c9, c10]), (1, .agg #[e0, e1, e2, e3, e4, e5, e6, e7, e8, e9, e10]), (2, .agg #[f0, f1, f2, f3, f4, f5, f6, f7, f8, f9, f10]), (3, .agg #[g0, g1, g2, g3, g4, g5, g6, g7, g8, g9, g10]), (4, .agg #[h0, h1, h2, h3, h4, h5, h6, h7, h8, h9, h10])]).run Try.prog w =
    .ok (.slice (some ⟨w.heap.size, 0, none⟩) 5 5) (w.alloc (.cells #[c0, c1, c2, c3, c4, c5, c6, c7, c8, c9, c10, e0, e1, e2, e3, e4, e5, e6, e7, e8, e9, e10, f0, f1, f2, f3, f4, f5, f6, f7, f8, f9, f10, g0, g1, g2, g3, g4, g5, g6, g7, g8, g9, g10, h0, h1, h2, h3, h4, h5, h6, h7, h8, h9, h10] 30)) := by kernel_rfl
theorem run_build_kind (nm lo : ByteArray) (a : Option Addr) (n c : Nat) (a' : Option Addr) (n' c' : Nat) (w : World) : (Instr.build 30 #[(0, .string nm), (1, .bool true), (3, .string lo), (4, .slice a n c), (10, .slice a' n' c')]).run Try.prog w =
    .ok (.agg #[.string nm, .bool true, .string k_empty, .string lo, .slice a n c, .slice none 0 0, .slice none 0 0, .slice none 0 0, .slice none 0 0, .slice none 0 0, .slice a' n' c']) w := by kernel_rfl
theorem two_forms {X : List Nat} {k : Nat} {w : World} {c d : List Value} {t u : FTree k} (hc : c.length = 11) (h : FormIs X k w (.agg c.toArray) t) (hd : d.length = 11) (h' : FormIs X k w (.agg d.toArray) u) :
    ∀ (i : Nat) (c' : List Value) (t' : FTree k), [c, d][i]? = some c' → [t, u][i]? = some t' → c'.length = 11 ∧ FormIs X k w (.agg c'.toArray) t' := by
  intro i c' t' h1 h2
  match i, h1, h2 with
  | 0, h1, h2 => simp at h1 h2; subst h1 h2; exact ⟨hc, h⟩
  | 1, h1, h2 => simp at h1 h2; subst h1 h2; exact ⟨hd, h'⟩
theorem more_forms {X : List Nat} {k : Nat} {w : World} {c : List Value} {t : FTree k} {cs : List (List Value)} {ts : List (FTree k)} (hc : c.length = 11) (h : FormIs X k w (.agg c.toArray) t)
    (hr : ∀ (i : Nat) (c' : List Value) (t' : FTree k), cs[i]? = some c' → ts[i]? = some t' → c'.length = 11 ∧ FormIs X k w (.agg c'.toArray) t') :
    ∀ (i : Nat) (c' : List Value) (t' : FTree k), (c :: cs)[i]? = some c' → (t :: ts)[i]? = some t' → c'.length = 11 ∧ FormIs X k w (.agg c'.toArray) t' := by
  intro i c' t' h1 h2
  match i, h1, h2 with
  | 0, h1, h2 => simp at h1 h2; subst h1 h2; exact ⟨hc, h⟩
  | i + 1, h1, h2 => exact hr i c' t' (by simpa using h1) (by simpa using h2)
end Go.Proofs.Qxb6601023a
