/-
  OWN WORK. zzEncStr_b1, zzEncList_b1, zzEncCount_b1: what they answer.
-/
import Derived.Test.Qxb6601023aItoa
namespace Go.Proofs.Qxb6601023a
open Go Go.RowKit
set_option linter.unusedVariables false
set_option linter.unusedSimpArgs false

def encStr (s : ByteArray) : ByteArray := itoaB s.size ++ ⟨#[58]⟩ ++ s
def encFold (o : ByteArray) : List ByteArray → ByteArray
  | [] => o
  | s :: l => encFold (o ++ encStr s) l
def encList (l : List ByteArray) : ByteArray := encFold (itoaB l.length ++ ⟨#[91]⟩) l
def encCount (k o : ByteArray) (n : Nat) : ByteArray := encStr k ++ encStr o ++ encStr (itoaB n)

def big : Nat := 2 ^ 62
theorem encStr_size (s : ByteArray) : (encStr s).size = (itoaB s.size).size + 1 + s.size := by
  simp [encStr, ByteArray.size_append]; rfl
theorem encFold_size (l : List ByteArray) (o : ByteArray) : (encFold o l).size = o.size + (l.map fun s => (encStr s).size).sum := by
  induction l generalizing o with
  | nil => simp [encFold]
  | cons s l ih => simp [encFold, ih, ByteArray.size_append]; omega

set_option maxRecDepth 100000 in
theorem encStr44 (s : ByteArray) (hs : (encStr s).size < 2 ^ 62) (w : World) : Calls Try.prog 44 #[.string s] w fun e w' => e = .returned (.string (encStr s)) ∧ Below w.heap.size w w' := by
  rw [encStr_size] at hs
  go_enter Try.func44, Try.ntmps44
  go_wp2_with fail
  refine (itoa45 s.size (by omega) _).mono ?_
  rintro e w1 ⟨rfl, hb⟩
  have HB := hide hb
  clear hb
  have h1 : (itoaB s.size).size + 1 < 2 ^ 62 := by omega
  go_wp2_with fail
  go_ret
  exact ⟨rfl, unhide HB⟩

theorem encFold_take {l : List ByteArray} {k : Nat} (hk : k < l.length) (o : ByteArray) : encFold o (l.take (k + 1)) = encFold o (l.take k) ++ encStr l[k] := by
  induction l generalizing o k with
  | nil => simp at hk
  | cons s l ih =>
    cases k with
    | zero => simp [encFold]
    | succ k => simpa [encFold] using ih (by simpa using hk) _
theorem encFold_le {l : List ByteArray} (k : Nat) (o : ByteArray) : (encFold o (l.take k)).size ≤ (encFold o l).size := by
  induction l generalizing o k with
  | nil => simp [encFold]
  | cons s l ih =>
    cases k with
    | zero => simp [encFold, encFold_size, ByteArray.size_append]; omega
    | succ k => simpa [encFold] using ih _ _
theorem encFold_mem {l : List ByteArray} {k : Nat} (hk : k < l.length) (o : ByteArray) : (encFold o (l.take k)).size + (encStr l[k]).size ≤ (encFold o l).size := by
  have := encFold_le (l := l) (k + 1) o
  rwa [encFold_take hk, ByteArray.size_append] at this
theorem encList_head {l : List ByteArray} : (itoaB l.length).size + 1 ≤ (encList l).size := by
  simp [encList, encFold_size, ByteArray.size_append]
  show _ + 1 ≤ _ + 1 + _
  omega

theorem encList_len (l : List ByteArray) : l.length ≤ (encList l).size := by
  have : ∀ (o : ByteArray), l.length ≤ (encFold o l).size := by
    intro o
    rw [encFold_size]
    have : l.length ≤ (l.map fun s => (encStr s).size).sum := by
      induction l with
      | nil => simp
      | cons s l ih => simp [encStr_size]; simp [encStr_size] at ih; omega
    omega
  exact this _

set_option maxRecDepth 100000 in
theorem encList46_nil (a : Option Addr) (c : Nat) (w : World) : Calls Try.prog 46 #[.slice a 0 c] w fun e w' => e = .returned (.string (encList [])) ∧ Below w.heap.size w w' := by
  go_enter Try.func46, Try.ntmps46
  go_wp2_with fail
  refine (itoa45 0 (by omega) _).mono ?_
  rintro e w1 ⟨rfl, hb⟩
  have HB := hide hb
  clear hb
  have h1 : (itoaB 0).size + 1 < 2 ^ 62 := by decide
  go_wp2_with fail
  go_loop [3, 4] (fun o i => o = .string (itoaB 0 ++ ⟨#[91]⟩) ∧ i = .int .i64 0) (fun _ _ => 0)
  case atStart => exact ⟨rfl, rfl⟩
  case round =>
    obtain ⟨rfl, rfl⟩ := hrel
    go_wp2
    go_ret
    exact ⟨rfl, unhide HB⟩

set_option maxRecDepth 100000 in
theorem encList46_cons (g c : Nat) (l : List ByteArray) (w : World) (hm : l.length ≤ maxLen) (hs : (encList l).size < 2 ^ 62)
   (hc : ∀ wr, Below w.heap.size w wr → ∀ k, (h : k < l.length) → wr.cell? ⟨g, k, none⟩ = some (.string l[k])) :
    Calls Try.prog 46 #[.slice (some ⟨g, 0, none⟩) l.length c] w fun e w' => e = .returned (.string (encList l)) ∧ Below w.heap.size w w' := by
  unfold maxLen at hm
  have h1 := Nat.lt_of_le_of_lt encList_head hs
  have h0 := Nat.lt_of_le_of_lt (encList_len l) hs
  have HS := hide hs
  have HC := hide hc
  clear hs hc
  go_enter Try.func46, Try.ntmps46
  go_wp2_with fail
  refine (itoa45 l.length (by omega) _).mono ?_
  rintro e w1 ⟨rfl, hb⟩
  have HB := hide hb
  clear hb
  go_wp2_with fail
  go_loopw [3, 4] (fun o i wr => ∃ k : Nat, k ≤ l.length ∧ i = .int .i64 k ∧ o = .string (encFold (itoaB l.length ++ ⟨#[91]⟩) (l.take k)) ∧ Below w.heap.size w wr) (fun _ i _ => l.length - (intOf i).toNat)
  case atStart => exact ⟨0, Nat.zero_le _, rfl, rfl, unhide HB⟩
  case round =>
    obtain ⟨k, hk, rfl, rfl, hbr⟩ := hrel
    have HBR := hide hbr
    by_cases hlt : k < l.length
    · have hcell := (unhide HC) wr hbr k hlt
      have hz := Nat.lt_of_le_of_lt (encFold_mem hlt (itoaB l.length ++ ⟨#[91]⟩)) (unhide HS)
      clear hbr
      go_wp2_with fail
      refine (encStr44 l[k] (by omega) _).mono ?_
      rintro e w2 ⟨rfl, hb2⟩
      have HB2 := hide ((unhide HBR).trans (hb2.mono (unhide HBR).size))
      clear hb2
      go_wp2_with fail
      go_roundw
      case rel => exact ⟨k + 1, by omega, by go_num, by rw [encFold_take hlt], unhide HB2⟩
      case measure => simp [intOf]; omega
    · clear hbr
      go_wp2_with fail
      go_ret
      refine ⟨?_, unhide HBR⟩
      rw [show k = l.length by omega, List.take_length]
      rfl

theorem encList46 {X : List Nat} {s : Value} {l : List ByteArray} {w : World} (h : Strs X w s l) (hs : (encList l).size < 2 ^ 62) : Calls Try.prog 46 #[s] w fun e w' => e = .returned (.string (encList l)) ∧ Below w.heap.size w w' := by
  cases l with
  | nil =>
    obtain ⟨a, c, he, _⟩ := Own.form h
    subst he
    exact encList46_nil a c w
  | cons y r =>
    obtain ⟨g, c, he, h1, _, h2⟩ := strs_cell h (by simp)
    subst he
    refine encList46_cons g c (y :: r) w h1 hs fun wr hb k hk => ?_
    obtain ⟨g', c', he', _, _, h2'⟩ := strs_cell (h.keep (Keep.of_below hb)) (by simp)
    cases he'
    exact h2' k hk

theorem encCount_size (k o : ByteArray) (n : Nat) : (encCount k o n).size = (encStr k).size + (encStr o).size + (encStr (itoaB n)).size := by
  simp [encCount, ByteArray.size_append]

set_option maxRecDepth 100000 in
theorem encCount22 (k o : ByteArray) (n : Nat) (hn : n < 2 ^ 62) (hs : (encCount k o n).size < 2 ^ 62) (w : World) : Calls Try.prog 22 #[.string k, .string o, .int .i64 n] w fun e w' => e = .returned (.string (encCount k o n)) ∧ Below w.heap.size w w' := by
  rw [encCount_size] at hs
  go_enter Try.func22, Try.ntmps22
  go_wp2_with fail
  refine (encStr44 k (by omega) _).mono ?_
  rintro e w1 ⟨rfl, hb1⟩
  have HB1 := hide hb1
  clear hb1
  go_wp2_with fail
  refine (encStr44 o (by omega) _).mono ?_
  rintro e w2 ⟨rfl, hb2⟩
  have HB2 := hide ((unhide HB1).trans (hb2.mono (unhide HB1).size))
  clear hb2
  go_wp2_with fail
  refine (itoa45 n (by omega) _).mono ?_
  rintro e w3 ⟨rfl, hb3⟩
  have HB3 := hide ((unhide HB2).trans (hb3.mono (unhide HB2).size))
  clear hb3
  go_wp2_with fail
  refine (encStr44 (itoaB n) (by omega) _).mono ?_
  rintro e w4 ⟨rfl, hb4⟩
  have HB4 := hide ((unhide HB3).trans (hb4.mono (unhide HB3).size))
  clear hb4
  go_wp2_with fail
  go_ret
  exact ⟨rfl, unhide HB4⟩
end Go.Proofs.Qxb6601023a
