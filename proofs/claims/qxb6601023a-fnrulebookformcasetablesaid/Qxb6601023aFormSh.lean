/-
  OWN WORK. rulebookForm (20) at a body that is not a board.
-/
import Derived.Test.Qxb6601023aTail12
namespace Go.Proofs.Qxb6601023a
open Go.RowKit Go.Flow
set_option linter.unusedVariables false
set_option linter.unusedSimpArgs false

theorem VarB.cell {w : World} {b : Nat} {v : Value} (h : VarB w b #[v]) : w.cell? ⟨b, 0, none⟩ = some v := h.2.1 0

/-- The first four blocks. -/
theorem s0_sh (w : World) : S0 w ((((w.alloc (.cells #[.string k_empty, .bool false, .string k_empty, .string k_empty, .slice none 0 0, .slice none 0 0, .slice none 0 0, .slice none 0 0, .slice none 0 0, .slice none 0 0, .slice none 0 0] 30)).alloc (.cells #[.string k_voting_present] 54)).alloc (.cells #[.slice (some ⟨w.heap.size + 1, 0, none⟩) 1 1] 27)).alloc (.cells #[.func (.func 42) #[] #[.pointer (some ⟨w.heap.size + 1 + 1, 0, none⟩)]] 55))
    w.heap.size (w.heap.size + 1 + 1) (w.heap.size + 1 + 1 + 1) vpL (.slice (some ⟨w.heap.size + 1, 0, none⟩) 1 1) := by
  refine ⟨?_, Nat.le_refl _, (((VarB.new _ 30 rfl).alloc _).alloc _).alloc _, (VarB.new _ 55 (by simp)).cell, by simp, ((VarB.new _ 27 (by simp)).alloc _).cell, by simp, ?_⟩
  · iterate 4 (refine Below.alloc ?_ (by first | omega | (simp; done) | (simp; omega)) _)
    exact Below.refl _ _
  · exact basesLit (l := vpL) (cs := #[.string k_voting_present]) (by repeat (first | exact blk_top _ _ (by simp; done) | refine blk_under _ (by first | (simp; done) | (simp; omega)) ?_)) (by simp) rfl (by decide) rfl rfl

set_option maxRecDepth 100000 in
set_option maxHeartbeats 2000000 in
theorem form20_sh (body : ByteArray) (hb : (body.toList == [98, 111, 97, 114, 100]) = false) (w : World) :
    Calls Try.prog 20 #[.string body] w (Post20 w shTree) := by
  have HSH : Hid (shTree = topT ([ruleT 4 false k_quorum k_empty vpL, ruleT 4 false k_pass k_every vpL, keysT 4 k_recusal k_refuse [k_article]] ++ bdProxy false ++ five (keysT 4 k_ballot k_refuse [k_first_vote_counts, k_first_vote_article, k_uncast, k_uncast_article, k_treasury_article]) (noticeT [k_annual_days, k_extraordinary_days, k_day_count, k_article] [(k_annual_days, k_days, 0), (k_extraordinary_days, k_days, 0)] [shChangeT]) vpL ++ bdEnd false)) := by
    show _ = _
    rfl
  generalize shTree = T at *
  go_enter Try.func20, Try.ntmps20
  obtain ⟨C, hC⟩ : ∃ C, C = dropSeq 12 (Try.f20.body.getD .skip) := ⟨_, rfl⟩
  have e : (Try.f20.body.getD .skip) = replTail 12 (Try.f20.body.getD .skip) C := by subst hC; rfl
  change Code.wp Try.prog (Try.f20.body.getD .skip) _ _ _
  rw [e]
  have HC : Hid (C = dropSeq 12 (Try.f20.body.getD .skip)) := hC
  clear hC e
  conv => arg 2; whnf
  simp only [replTail]
  go_wp2_with fail
  have hS := s0_sh w
  refine (rule43 (X := [w.heap.size]) k_quorum k_empty _ _ (fun k hk => by simp at hk; subst hk; exact hS.var2.1) hS.c5 hS.l5 hS.c4 hS.l4 hS.bases).mono ?_
  rintro e w1 ⟨v, rfl, hf, hbel, hsz⟩
  obtain ⟨ra4, rn4, rd4, ra5, rn5, rd5, ra6, rn6, rd6, ra7, rn7, rd7, ra8, rn8, rd8, ra9, rn9, rd9, ra10, rn10, rd10, rfl, -⟩ := (hf 4).open
  have HF := hf 4
  clear hf
  have hs1 : w1.heap.size = w.heap.size + 1 + 1 + 1 + 1 + 6 := by rw [hsz]; simp
  have HS1 : Hid (S0 w w1 w.heap.size (w.heap.size + 1 + 1) (w.heap.size + 1 + 1 + 1) vpL (.slice (some ⟨w.heap.size + 1, 0, none⟩) 1 1)) := hS.grow hbel
  clear hsz hbel hS
  have HF' : Hid (FormIs [w.heap.size] 5 w1 _ (ruleT 4 false k_quorum k_empty vpL)) := HF
  clear HF
  go_wp2
  rw [HC.out, HSH.out]
  have hb11 : ∀ (A1 A2 A3 A4 A5 A6 A7 A8 A9 A10 A11 : Obj), Below w1.heap.size w1 (((((((((((w1.alloc A1).alloc A2).alloc A3).alloc A4).alloc A5).alloc A6).alloc A7).alloc A8).alloc A9).alloc A10).alloc A11) := fun _ _ _ _ _ _ _ _ _ _ _ => by
    iterate 11 (refine Below.alloc ?_ (by first | omega | (simp; done) | (simp; omega)) _)
    exact Below.refl _ _
  have toX : ∀ k ∈ [w.heap.size + 1 + 1 + 1 + 1 + 6 + 1 + 1 + 1 + 1 + 1 + 1 + 1, w.heap.size], k ∈ [w.heap.size] ∨ w1.heap.size ≤ k := by
    intro k hk
    simp only [List.mem_cons, List.not_mem_nil, or_false] at hk ⊢
    omega
  refine tail12 (tc := shChangeT) (HS1.out.grow (hb11 _ _ _ _ _ _ _ _ _ _ _)) ((HS1.out.bases.shift toX).keep (Keep.of_below (hb11 _ _ _ _ _ _ _ _ _ _ _))) ⟨_, ((((((((((VarB.new _ 30 (by simp [hs1])).alloc _).alloc _).alloc _).alloc _).alloc _).alloc _).alloc _).alloc _).alloc _).alloc _, (HF'.out.shift toX).keep (Keep.of_below (hb11 _ _ _ _ _ _ _ _ _ _ _))⟩
    ⟨_, ((((((((VarB.new _ 30 (by simp [hs1])).alloc _).alloc _).alloc _).alloc _).alloc _).alloc _).alloc _).alloc _, leafIs (strsLit (l := [k_article]) (cs := #[.string k_article]) (by repeat (first | exact blk_top _ _ (by simp [hs1]; done) | refine blk_under _ (by first | (simp [hs1]; done) | (simp [hs1]; omega)) ?_)) (by simp only [List.mem_cons, List.not_mem_nil, or_false, not_or]; omega) rfl (by decide) rfl rfl) (Own.nil _ _ _ _)⟩
    ⟨_, ((((((VarB.new _ 30 (by simp [hs1])).alloc _).alloc _).alloc _).alloc _).alloc _).alloc _, leafIs (strsLit (l := [k_first_vote_counts, k_first_vote_article, k_uncast, k_uncast_article, k_treasury_article]) (cs := #[.string k_first_vote_counts, .string k_first_vote_article, .string k_uncast, .string k_uncast_article, .string k_treasury_article]) (by repeat (first | exact blk_top _ _ (by simp [hs1]; done) | refine blk_under _ (by first | (simp [hs1]; done) | (simp [hs1]; omega)) ?_)) (by simp only [List.mem_cons, List.not_mem_nil, or_false, not_or]; omega) rfl (by decide) rfl rfl) (Own.nil _ _ _ _)⟩
    ⟨_, (((VarB.new _ 30 (by simp [hs1])).alloc _).alloc _).alloc _, _, _, _, _, _, _, _, rfl, strsLit (l := [k_annual_days, k_extraordinary_days, k_day_count, k_article]) (cs := #[.string k_annual_days, .string k_extraordinary_days, .string k_day_count, .string k_article]) (by repeat (first | exact blk_top _ _ (by simp [hs1]; done) | refine blk_under _ (by first | (simp [hs1]; done) | (simp [hs1]; omega)) ?_)) (by simp only [List.mem_cons, List.not_mem_nil, or_false, not_or]; omega) rfl (by decide) rfl rfl, Own.nil _ _ _ _, noGroups _ _, Own.nil _ _ _ _, countsLit (l := [(k_annual_days, k_days, 0), (k_extraordinary_days, k_days, 0)]) (cs := #[.string k_annual_days, .string k_days, .int .i64 0, .string k_extraordinary_days, .string k_days, .int .i64 0]) (by repeat (first | exact blk_top _ _ (by simp [hs1]; done) | refine blk_under _ (by first | (simp [hs1]; done) | (simp [hs1]; omega)) ?_)) (by simp only [List.mem_cons, List.not_mem_nil, or_false, not_or]; omega) rfl (by decide) rfl rfl, Own.nil _ _ _ _, noForms _ _⟩
    ⟨_, VarB.new _ 30 (by simp [hs1]), _, _, _, _, _, _, _, rfl, strsLit (l := [k_days, k_article]) (cs := #[.string k_days, .string k_article]) (by repeat (first | exact blk_top _ _ (by simp [hs1]; done) | refine blk_under _ (by first | (simp [hs1]; done) | (simp [hs1]; omega)) ?_)) (by simp only [List.mem_cons, List.not_mem_nil, or_false, not_or]; omega) rfl (by decide) rfl rfl, Own.nil _ _ _ _, noGroups _ _, Own.nil _ _ _ _, countsLit (l := [(k_days, k_days, 0)]) (cs := #[.string k_days, .string k_days, .int .i64 0]) (by repeat (first | exact blk_top _ _ (by simp [hs1]; done) | refine blk_under _ (by first | (simp [hs1]; done) | (simp [hs1]; omega)) ?_)) (by simp only [List.mem_cons, List.not_mem_nil, or_false, not_or]; omega) rfl (by decide) rfl rfl, Own.nil _ _ _ _, noForms _ _⟩
    (by omega) (by omega) (by omega) (by omega) (by omega) (by omega) (by omega) (by omega)
end Go.Proofs.Qxb6601023a
