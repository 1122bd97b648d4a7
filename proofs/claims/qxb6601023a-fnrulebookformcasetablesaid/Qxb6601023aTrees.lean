/-
  OWN WORK. The two forms as plain trees (depth at most 5), the words that the program's text holds, and what 'well formed' says of a tree.
-/
import Derived.Test.Qxb6601023aHeap
namespace Go.Proofs.Qxb6601023a
open Go

abbrev k_base : ByteArray := ⟨#[98, 97, 115, 101]⟩
abbrev k_bound : ByteArray := ⟨#[98, 111, 117, 110, 100]⟩
abbrev k_share : ByteArray := ⟨#[115, 104, 97, 114, 101]⟩
abbrev k_article : ByteArray := ⟨#[97, 114, 116, 105, 99, 108, 101]⟩
abbrev k_no_rule : ByteArray := ⟨#[110, 111, 45, 114, 117, 108, 101]⟩
abbrev k_refuse : ByteArray := ⟨#[114, 101, 102, 117, 115, 101]⟩
abbrev k_voting_present : ByteArray := ⟨#[118, 111, 116, 105, 110, 103, 45, 112, 114, 101, 115, 101, 110, 116]⟩
abbrev k_seated : ByteArray := ⟨#[115, 101, 97, 116, 101, 100]⟩
abbrev k_attending : ByteArray := ⟨#[97, 116, 116, 101, 110, 100, 105, 110, 103]⟩
abbrev k_unrelated : ByteArray := ⟨#[117, 110, 114, 101, 108, 97, 116, 101, 100]⟩
abbrev k_independent : ByteArray := ⟨#[105, 110, 100, 101, 112, 101, 110, 100, 101, 110, 116]⟩
abbrev k_quorum : ByteArray := ⟨#[113, 117, 111, 114, 117, 109]⟩
abbrev k_pass : ByteArray := ⟨#[112, 97, 115, 115]⟩
abbrev k_recusal : ByteArray := ⟨#[114, 101, 99, 117, 115, 97, 108]⟩
abbrev k_ballot : ByteArray := ⟨#[98, 97, 108, 108, 111, 116]⟩
abbrev k_first_vote_counts : ByteArray := ⟨#[102, 105, 114, 115, 116, 95, 118, 111, 116, 101, 95, 99, 111, 117, 110, 116, 115]⟩
abbrev k_first_vote_article : ByteArray := ⟨#[102, 105, 114, 115, 116, 95, 118, 111, 116, 101, 95, 97, 114, 116, 105, 99, 108, 101]⟩
abbrev k_uncast : ByteArray := ⟨#[117, 110, 99, 97, 115, 116]⟩
abbrev k_uncast_article : ByteArray := ⟨#[117, 110, 99, 97, 115, 116, 95, 97, 114, 116, 105, 99, 108, 101]⟩
abbrev k_treasury_article : ByteArray := ⟨#[116, 114, 101, 97, 115, 117, 114, 121, 95, 97, 114, 116, 105, 99, 108, 101]⟩
abbrev k_notice : ByteArray := ⟨#[110, 111, 116, 105, 99, 101]⟩
abbrev k_annual_days : ByteArray := ⟨#[97, 110, 110, 117, 97, 108, 95, 100, 97, 121, 115]⟩
abbrev k_extraordinary_days : ByteArray := ⟨#[101, 120, 116, 114, 97, 111, 114, 100, 105, 110, 97, 114, 121, 95, 100, 97, 121, 115]⟩
abbrev k_day_count : ByteArray := ⟨#[100, 97, 121, 95, 99, 111, 117, 110, 116]⟩
abbrev k_days : ByteArray := ⟨#[100, 97, 121, 115]⟩
abbrev k_change : ByteArray := ⟨#[99, 104, 97, 110, 103, 101]⟩
abbrev k_refer_below : ByteArray := ⟨#[114, 101, 102, 101, 114, 95, 98, 101, 108, 111, 119]⟩
abbrev k_directors : ByteArray := ⟨#[100, 105, 114, 101, 99, 116, 111, 114, 115]⟩
abbrev k_late : ByteArray := ⟨#[108, 97, 116, 101]⟩
abbrev k_regular_days : ByteArray := ⟨#[114, 101, 103, 117, 108, 97, 114, 95, 100, 97, 121, 115]⟩
abbrev k_urgent_oral : ByteArray := ⟨#[117, 114, 103, 101, 110, 116, 95, 111, 114, 97, 108]⟩
abbrev k_consent : ByteArray := ⟨#[99, 111, 110, 115, 101, 110, 116]⟩
abbrev k_extraordinary : ByteArray := ⟨#[101, 120, 116, 114, 97, 111, 114, 100, 105, 110, 97, 114, 121]⟩
abbrev k_extra : ByteArray := ⟨#[101, 120, 116, 114, 97]⟩
abbrev k_proxy : ByteArray := ⟨#[112, 114, 111, 120, 121]⟩
abbrev k_max_held : ByteArray := ⟨#[109, 97, 120, 95, 104, 101, 108, 100]⟩
abbrev k_independent_needs_independent : ByteArray := ⟨#[105, 110, 100, 101, 112, 101, 110, 100, 101, 110, 116, 95, 110, 101, 101, 100, 115, 95, 105, 110, 100, 101, 112, 101, 110, 100, 101, 110, 116]⟩
abbrev k_unrelated_needs_unrelated : ByteArray := ⟨#[117, 110, 114, 101, 108, 97, 116, 101, 100, 95, 110, 101, 101, 100, 115, 95, 117, 110, 114, 101, 108, 97, 116, 101, 100]⟩
abbrev k_instructions_required : ByteArray := ⟨#[105, 110, 115, 116, 114, 117, 99, 116, 105, 111, 110, 115, 95, 114, 101, 113, 117, 105, 114, 101, 100]⟩
abbrev k_proxies : ByteArray := ⟨#[112, 114, 111, 120, 105, 101, 115]⟩
abbrev k_unlisted : ByteArray := ⟨#[117, 110, 108, 105, 115, 116, 101, 100]⟩
abbrev k_consequence : ByteArray := ⟨#[99, 111, 110, 115, 101, 113, 117, 101, 110, 99, 101]⟩
abbrev k_revocable_article : ByteArray := ⟨#[114, 101, 118, 111, 99, 97, 98, 108, 101, 95, 97, 114, 116, 105, 99, 108, 101]⟩
abbrev k_kind : ByteArray := ⟨#[107, 105, 110, 100]⟩
abbrev k_name : ByteArray := ⟨#[110, 97, 109, 101]⟩
abbrev k_deferral : ByteArray := ⟨#[100, 101, 102, 101, 114, 114, 97, 108]⟩
abbrev k_format : ByteArray := ⟨#[102, 111, 114, 109, 97, 116]⟩
abbrev k_body : ByteArray := ⟨#[98, 111, 100, 121]⟩
abbrev k_title : ByteArray := ⟨#[116, 105, 116, 108, 101]⟩
abbrev k_shareholders_meeting : ByteArray := ⟨#[115, 104, 97, 114, 101, 104, 111, 108, 100, 101, 114, 115, 95, 109, 101, 101, 116, 105, 110, 103]⟩
abbrev k_board : ByteArray := ⟨#[98, 111, 97, 114, 100]⟩
abbrev k_empty : ByteArray := ⟨#[]⟩
abbrev k_every : ByteArray := ⟨#[101, 118, 101, 114, 121, 32, 114, 117, 108, 101, 98, 111, 111, 107]⟩
abbrev k_aboards : ByteArray := ⟨#[97, 32, 98, 111, 97, 114, 100, 39, 115, 32, 114, 117, 108, 101, 98, 111, 111, 107]⟩
abbrev k_arecusal : ByteArray := ⟨#[97, 32, 98, 111, 97, 114, 100, 39, 115, 32, 91, 114, 101, 99, 117, 115, 97, 108, 93]⟩
abbrev k_anotice : ByteArray := ⟨#[97, 32, 98, 111, 97, 114, 100, 39, 115, 32, 91, 110, 111, 116, 105, 99, 101, 46, 99, 104, 97, 110, 103, 101, 46, 101, 120, 116, 114, 97, 111, 114, 100, 105, 110, 97, 114, 121, 93]⟩
abbrev k_indepdirs : ByteArray := ⟨#[105, 110, 100, 101, 112, 101, 110, 100, 101, 110, 116, 32, 100, 105, 114, 101, 99, 116, 111, 114, 115]⟩

/-- A threshold and a rule: leaves. -/
def thrT (n : Nat) (nm nb : ByteArray) (bs : List ByteArray) : FTree (n + 1) :=
  { name := nm, array := false, needed := nb, left := k_no_rule, keys := [k_base, k_bound, k_share], optional := [], together := [], oneOf := [], counts := [], bases := bs, tables := [] : FNode (FTree n) }
def ruleT (n : Nat) (ar : Bool) (nm nb : ByteArray) (bs : List ByteArray) : FTree (n + 1) :=
  { name := nm, array := ar, needed := nb, left := k_no_rule, keys := [k_base, k_bound, k_share, k_article], optional := [], together := [], oneOf := [], counts := [], bases := bs, tables := [] : FNode (FTree n) }
/-- A table that only has keys. -/
def keysT (n : Nat) (nm lo : ByteArray) (ks : List ByteArray) : FTree (n + 1) :=
  { name := nm, array := false, needed := k_empty, left := lo, keys := ks, optional := [], together := [], oneOf := [], counts := [], bases := [], tables := [] : FNode (FTree n) }
def vpL : List ByteArray := [k_voting_present]
def bbL : List ByteArray := [k_seated, k_attending, k_unrelated, k_independent]
def extraordinaryT : FTree 3 :=
  { name := k_extraordinary, array := false, needed := k_empty, left := k_no_rule, keys := [k_article], optional := [], together := [], oneOf := [], counts := [], bases := [], tables := [thrT 1 k_consent k_anotice bbL] : FNode (FTree 2) }
def changeT (tables : List (FTree 3)) : FTree 4 :=
  { name := k_change, array := false, needed := k_empty, left := k_no_rule, keys := [k_days, k_article], optional := [], together := [], oneOf := [], counts := [(k_days, k_days, 0)], bases := [], tables := tables : FNode (FTree 3) }
def noticeT (ks : List ByteArray) (cs : List (ByteArray × ByteArray × Int)) (tables : List (FTree 4)) : FTree 5 :=
  { name := k_notice, array := false, needed := k_empty, left := k_no_rule, keys := ks, optional := [], together := [], oneOf := [], counts := cs, bases := [], tables := tables : FNode (FTree 4) }
def kindT (bs : List ByteArray) : FTree 5 :=
  { name := k_kind, array := true, needed := k_empty, left := k_no_rule, keys := [k_name], optional := [], together := [], oneOf := [], counts := [], bases := [], tables := [ruleT 3 false k_pass k_empty bs, ruleT 3 true k_extra k_empty bs] : FNode (FTree 4) }
def topT (tables : List (FTree 5)) : FTree 6 :=
  { name := k_empty, array := false, needed := k_empty, left := k_empty, keys := [k_format, k_body, k_title, k_shareholders_meeting], optional := [], together := [], oneOf := [], counts := [], bases := [], tables := tables : FNode (FTree 5) }
def shChangeT : FTree 4 := changeT []
def shNoticeT : FTree 5 := noticeT [k_annual_days, k_extraordinary_days, k_day_count, k_article] [(k_annual_days, k_days, 0), (k_extraordinary_days, k_days, 0)] [shChangeT]
def shTree : FTree 6 := topT [ruleT 4 false k_quorum k_empty vpL, ruleT 4 false k_pass k_every vpL, keysT 4 k_recusal k_refuse [k_article],
  keysT 4 k_ballot k_refuse [k_first_vote_counts, k_first_vote_article, k_uncast, k_uncast_article, k_treasury_article], shNoticeT, ruleT 4 false k_unlisted k_empty vpL,
  keysT 4 k_consequence k_refuse [k_revocable_article], kindT vpL]
def bdRecusalT : FTree 5 :=
  { name := k_recusal, array := false, needed := k_empty, left := k_refuse, keys := [k_refer_below, k_article], optional := [], together := [], oneOf := [], counts := [(k_refer_below, k_directors, 0)], bases := [], tables := [thrT 3 k_quorum k_arecusal bbL, thrT 3 k_pass k_arecusal bbL] : FNode (FTree 4) }
def bdProxyT : FTree 5 :=
  { name := k_proxy, array := false, needed := k_empty, left := k_refuse, keys := [k_article], optional := [k_max_held, k_independent_needs_independent, k_unrelated_needs_unrelated, k_instructions_required], together := [], oneOf := [], counts := [(k_max_held, k_proxies, 0)], bases := [], tables := [] : FNode (FTree 4) }
def bdBallotT : FTree 5 :=
  { name := k_ballot, array := false, needed := k_empty, left := k_refuse, keys := [], optional := [], together := [[k_late, k_article], [k_uncast, k_uncast_article]], oneOf := [k_late, k_uncast], counts := [], bases := [], tables := [] : FNode (FTree 4) }
def bdChangeT : FTree 4 := changeT [thrT 2 k_consent k_empty bbL, extraordinaryT]
def bdNoticeT : FTree 5 := noticeT [k_regular_days, k_extraordinary_days, k_urgent_oral, k_day_count, k_article] [(k_regular_days, k_days, 0), (k_extraordinary_days, k_days, 0)] [bdChangeT]
def bdDeferralT : FTree 5 :=
  { name := k_deferral, array := false, needed := k_empty, left := k_refuse, keys := [k_article], optional := [k_independent], together := [], oneOf := [k_independent, k_attending], counts := [(k_independent, k_indepdirs, 1)], bases := [], tables := [thrT 3 k_attending k_empty [k_attending]] : FNode (FTree 4) }
def bdTree : FTree 6 := topT [ruleT 4 false k_quorum k_aboards bbL, ruleT 4 false k_pass k_every bbL, bdRecusalT, bdProxyT, bdBallotT, bdNoticeT, ruleT 4 false k_unlisted k_empty bbL,
  keysT 4 k_consequence k_refuse [k_revocable_article], kindT bbL, bdDeferralT]

end Go.Proofs.Qxb6601023a
