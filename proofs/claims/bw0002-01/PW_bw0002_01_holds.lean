import PyProof.Rows.All
import Wide.All
import OpenK.AllK
import Wide.FinOn
import PySem.Challenge.RW_bw0002_01
open PySem PySem.W PyProof.Rows
set_option Elab.async false
namespace Mine
set_option maxRecDepth 100000 in
set_option maxHeartbeats 8000000 in
open_top hd for PySem.Challenge.rw_bw0002_01
end Mine

namespace Mine
def leapG (y : Int) : Bool := decide (y.fmod 4 = 0) && (!(decide (y.fmod 100 = 0)) || decide (y.fmod 400 = 0))
def gJd (y m d : Int) : Int :=
  1721426 - 1 + 365 * (y - 1) + (y - 1).fdiv 4 + -((y - 1).fdiv 100) + (y - 1).fdiv 400 + ((367 * m - 362).fdiv 12 + (if m ≤ 2 then 0 else if leapG y = true then -1 else -2) + d)
def jJd (y m d : Int) : Int :=
  if m ≤ 2 then (1461 * (y - 1 + 4716)).fdiv 4 + (306001 * (m + 12 + 1)).fdiv 10000 + d - 1524
  else (1461 * (y + 4716)).fdiv 4 + (306001 * (m + 1)).fdiv 10000 + d - 1524

theorem gJd_lo {y m d : Int} (h : m ≤ 2) : 1721426 - 1 + 365 * (y - 1) + (y - 1).fdiv 4 + -((y - 1).fdiv 100) + (y - 1).fdiv 400 + ((367 * m - 362).fdiv 12 + 0 + d) = gJd y m d := by
  simp only [gJd, if_pos h]
theorem gJd_leap {y m d : Int} (h : ¬ m ≤ 2) (hl : leapG y = true) : 1721426 - 1 + 365 * (y - 1) + (y - 1).fdiv 4 + -((y - 1).fdiv 100) + (y - 1).fdiv 400 + ((367 * m - 362).fdiv 12 + -1 + d) = gJd y m d := by
  simp only [gJd, if_neg h, hl, if_true]
theorem gJd_common {y m d : Int} (h : ¬ m ≤ 2) (hl : ¬ leapG y = true) : 1721426 - 1 + 365 * (y - 1) + (y - 1).fdiv 4 + -((y - 1).fdiv 100) + (y - 1).fdiv 400 + ((367 * m - 362).fdiv 12 + -2 + d) = gJd y m d := by
  simp only [gJd, if_neg h, if_neg hl]

noncomputable abbrev LN : List Str := looseW Mine.hd.view_39 [Str.ofString "legal_date_gregorian", Str.ofString "to_jd_gregorian", Str.ofString "legal_date_julian", Str.ofString "to_jd_julian"]

section
variable {w : World} {mean : ExcName → Option Value} {mg mb : Str → Option Value} {news : List (Addr × Obj)}
  {dp un : Nat} {gd : Option (List Code)} {cn : Str} {cs : Scope} {a : Addr} {ccd : Value} {cl : List (Str × Addr)} {outer : List Env} {A₀ : Around} {base h₀ : Heap} {L : Addr} {lm : Str → Option Value} {s : Shared} {Q E : Value → Shared → Prop}

theorem in_top {prog : Program} {w : World} {A : Around} {E : Value → Shared → Prop} {s : Shared} {h₀ : Heap} {L : Addr} {m : Str → Option Value} {K : Frag} {a : Addr} {n : Nat} {l : List Value} {ns : List Int} {dd : Option Addr} {sl : Array (Option Value)} {x : Int} {u : Tok} {Q : Value → Shared → Prop}
    (F : Fr h₀ L s.heap m) (X₀ : K.In h₀) (hl : K.lookup a = some ⟨.type "tuple", dd, .seq l.toArray n, sl⟩) (hi : IntsAre l ns)
    (h : Q (.bool (ns.any (· == x))) s) : wpAny (model prog w) A (compareOp .In (.int x u) (.ref a)) Q E s :=
  in_tuple_ints (tupK (X₀.keeps F.keep) hl) (by simpa using hi) h

local macro_rules | `(tactic| walk_at "compareOp In int ref") => `(tactic| (k_here; k_dflt (refine' in_top ?F ?X ?l ?i ?_; (case F => k_asm); (case X => k_asm); (case l => k_is); (case i => repeat constructor); k_whole)))

set_option maxRecDepth 100000
set_option maxHeartbeats 8000000

theorem c_isleap {y : Int} {t : Tok}
    (B : Below A₀ base outer h₀) (F : Fr h₀ L s.heap lm) (X : (Mine.hd.heap_39 w.params).In h₀) (N : News h₀ L s.heap news) (T : Top Mine.hd.view_39 LN mean mg mb h₀) (hk : cs.kind = .function)
    (hdp : dp + 2 < recursionLimit) (hret : CbRet h₀ L lm news s Q (fun _ => .bool (leapG y))) :
    wpAny (model Challenge.rw_bw0002_01.row.prog w) (ktrTop dp un gd cn cs L a ccd cl outer) (call (.ref 21) [.int y t]) Q E s := by
  dsimp only [CbRet] at hret
  revert X; k_fill; intro X
  k_with_none
  k_with "tree" => simp only [leapG]
  refine wpAny_call ?_
  k_dflt cell_enter
  k_steps
  all_goals cb_end hret

local macro_rules | `(tactic| walk_at "call ref") => `(tactic| (k_here; k_dflt (refine' c_isleap ?k1 ?k2 ?k3 ?k4 ?k5 ?kK ?kd ?_; (case k1 => k_asm); (case k2 => k_asm); (case k3 => k_asm); (case k4 => k_asm); (case k5 => k_asm); (case kK => first | exact rfl | assumption); (case kd => ktr_room); intro t9 h9 tk9 F9 N9; (try dsimp only); (try k_fold))))

theorem c_legal_g {y m : Int} {t1 t2 t3 : Tok}
    (B : Below A₀ base outer h₀) (F : Fr h₀ L s.heap lm) (X : (Mine.hd.heap_39 w.params).In h₀) (N : News h₀ L s.heap news) (T : Top Mine.hd.view_39 LN mean mg mb h₀) (hk : cs.kind = .function)
    (hdp : dp + 3 < recursionLimit) (hret : CbRet h₀ L lm news s Q (fun _ => .bool true)) :
    wpAny (model Challenge.rw_bw0002_01.row.prog w) (ktrTop dp un gd cn cs L a ccd cl outer) (call (.ref 29) [.int y t1, .int m t2, .int 13 t3]) Q E s := by
  dsimp only [CbRet] at hret
  revert X; k_fill; intro X
  k_with_none
  refine wpAny_call ?_
  k_dflt cell_enter
  k_steps
  all_goals cb_end hret

local macro_rules | `(tactic| walk_at "call ref") => `(tactic| (k_here; k_dflt (refine' c_legal_g ?k1 ?k2 ?k3 ?k4 ?k5 ?kK ?kd ?_; (case k1 => k_asm); (case k2 => k_asm); (case k3 => k_asm); (case k4 => k_asm); (case k5 => k_asm); (case kK => first | exact rfl | assumption); (case kd => ktr_room); intro t9 h9 tk9 F9 N9; (try dsimp only); (try k_fold))))

theorem c_gjd {y m : Int} {t1 t2 t3 : Tok}
    (B : Below A₀ base outer h₀) (F : Fr h₀ L s.heap lm) (X : (Mine.hd.heap_39 w.params).In h₀) (N : News h₀ L s.heap news) (T : Top Mine.hd.view_39 LN mean mg mb h₀) (hk : cs.kind = .function)
    (hdp : dp + 4 < recursionLimit) (hret : CbRet h₀ L lm news s Q (fun t => .int (gJd y m 13) t)) :
    wpAny (model Challenge.rw_bw0002_01.row.prog w) (ktrTop dp un gd cn cs L a ccd cl outer) (call (.ref 36) [.int y t1, .int m t2, .int 13 t3]) Q E s := by
  dsimp only [CbRet] at hret
  revert X; k_fill; intro X
  k_with_none
  k_with "tree" => first | exact gJd_lo (by assumption) | exact gJd_leap (by assumption) (by assumption) | exact gJd_common (by assumption) (by assumption) | exact gJd_common (by assumption) (by rw [Bool.not_eq_true]; assumption)
  refine wpAny_call ?_
  k_dflt cell_enter
  k_steps
  all_goals cb_end hret
end
end Mine

namespace Mine
theorem jJd_lo {y m d : Int} (h : m ≤ 2) : (1461 * (y - 1 + 4716)).fdiv 4 + (306001 * (m + 12 + 1)).fdiv 10000 + d - 1524 = jJd y m d := by
  simp only [jJd, if_pos h]
theorem jJd_hi {y m d : Int} (h : ¬ m ≤ 2) : (1461 * (y + 4716)).fdiv 4 + (306001 * (m + 1)).fdiv 10000 + d - 1524 = jJd y m d := by
  simp only [jJd, if_neg h]
section
variable {w : World} {mean : ExcName → Option Value} {mg mb : Str → Option Value} {news : List (Addr × Obj)}
  {dp un : Nat} {gd : Option (List Code)} {cn : Str} {cs : Scope} {a : Addr} {ccd : Value} {cl : List (Str × Addr)} {outer : List Env} {A₀ : Around} {base h₀ : Heap} {L : Addr} {lm : Str → Option Value} {s : Shared} {Q E : Value → Shared → Prop}

local macro_rules | `(tactic| walk_at "compareOp In int ref") => `(tactic| (k_here; k_dflt (refine' in_top ?F ?X ?l ?i ?_; (case F => k_asm); (case X => k_asm); (case l => k_is); (case i => repeat constructor); k_whole)))

set_option maxRecDepth 100000
set_option maxHeartbeats 8000000

theorem c_leap {y : Int} {t : Tok}
    (B : Below A₀ base outer h₀) (F : Fr h₀ L s.heap lm) (X : (Mine.hd.heap_39 w.params).In h₀) (N : News h₀ L s.heap news) (T : Top Mine.hd.view_39 LN mean mg mb h₀) (hk : cs.kind = .function)
    (hdp : dp + 2 < recursionLimit) (hret : CbRet h₀ L lm news s Q (fun _ => .bool (y.fmod 4 == 0))) :
    wpAny (model Challenge.rw_bw0002_01.row.prog w) (ktrTop dp un gd cn cs L a ccd cl outer) (call (.ref 44) [.int y t]) Q E s := by
  dsimp only [CbRet] at hret
  revert X; k_fill; intro X
  k_with_none
  refine wpAny_call ?_
  k_dflt cell_enter
  k_steps
  all_goals cb_end hret

local macro_rules | `(tactic| walk_at "call ref") => `(tactic| (k_here; k_dflt (refine' c_leap ?k1 ?k2 ?k3 ?k4 ?k5 ?kK ?kd ?_; (case k1 => k_asm); (case k2 => k_asm); (case k3 => k_asm); (case k4 => k_asm); (case k5 => k_asm); (case kK => first | exact rfl | assumption); (case kd => ktr_room); intro t9 h9 tk9 F9 N9; (try dsimp only); (try k_fold))))

theorem c_mlen {y m : Int} {t1 t2 : Tok}
    (B : Below A₀ base outer h₀) (F : Fr h₀ L s.heap lm) (X : (Mine.hd.heap_39 w.params).In h₀) (N : News h₀ L s.heap news) (T : Top Mine.hd.view_39 LN mean mg mb h₀) (hk : cs.kind = .function)
    (hdp : dp + 3 < recursionLimit) (hret : ∀ x : Int, 28 ≤ x → CbRet h₀ L lm news s Q (fun t => .int x t)) :
    wpAny (model Challenge.rw_bw0002_01.row.prog w) (ktrTop dp un gd cn cs L a ccd cl outer) (call (.ref 51) [.int y t1, .int m t2]) Q E s := by
  dsimp only [CbRet] at hret
  revert X; k_fill; intro X
  k_with_none
  refine wpAny_call ?_
  k_dflt cell_enter
  k_steps
  all_goals (refine' hret _ ?zb _ _ _ ?zF ?zN; (case zF => assumption); (case zN => assumption); (case zb => first | decide | ((repeat' split) <;> omega)))

local macro_rules | `(tactic| walk_at "call ref") => `(tactic| (k_here; k_dflt (refine' c_mlen ?k1 ?k2 ?k3 ?k4 ?k5 ?kK ?kd ?_; (case k1 => k_asm); (case k2 => k_asm); (case k3 => k_asm); (case k4 => k_asm); (case k5 => k_asm); (case kK => first | exact rfl | assumption); (case kd => ktr_room); intro x9 b9 t9 h9 tk9 F9 N9; (try dsimp only); (try k_fold))))

theorem c_legal_j {y m : Int} {t1 t2 t3 : Tok}
    (B : Below A₀ base outer h₀) (F : Fr h₀ L s.heap lm) (X : (Mine.hd.heap_39 w.params).In h₀) (N : News h₀ L s.heap news) (T : Top Mine.hd.view_39 LN mean mg mb h₀) (hk : cs.kind = .function)
    (hdp : dp + 4 < recursionLimit) (hret : CbRet h₀ L lm news s Q (fun _ => .bool true)) :
    wpAny (model Challenge.rw_bw0002_01.row.prog w) (ktrTop dp un gd cn cs L a ccd cl outer) (call (.ref 58) [.int y t1, .int m t2, .int 13 t3]) Q E s := by
  dsimp only [CbRet] at hret
  revert X; k_fill; intro X
  k_with_none
  refine wpAny_call ?_
  k_dflt cell_enter
  k_steps
  all_goals cb_end hret

local macro_rules | `(tactic| walk_at "call ref") => `(tactic| (k_here; k_dflt (refine' c_legal_j ?k1 ?k2 ?k3 ?k4 ?k5 ?kK ?kd ?_; (case k1 => k_asm); (case k2 => k_asm); (case k3 => k_asm); (case k4 => k_asm); (case k5 => k_asm); (case kK => first | exact rfl | assumption); (case kd => ktr_room); intro t9 h9 tk9 F9 N9; (try dsimp only); (try k_fold))))

theorem c_jjd {y m : Int} {t1 t2 t3 : Tok}
    (B : Below A₀ base outer h₀) (F : Fr h₀ L s.heap lm) (X : (Mine.hd.heap_39 w.params).In h₀) (N : News h₀ L s.heap news) (T : Top Mine.hd.view_39 LN mean mg mb h₀) (hk : cs.kind = .function)
    (hdp : dp + 5 < recursionLimit) (hret : CbRet h₀ L lm news s Q (fun t => .int (jJd y m 13) t)) :
    wpAny (model Challenge.rw_bw0002_01.row.prog w) (ktrTop dp un gd cn cs L a ccd cl outer) (call (.ref 65) [.int y t1, .int m t2, .int 13 t3]) Q E s := by
  dsimp only [CbRet] at hret
  revert X; k_fill; intro X
  k_with_none
  k_with "tree" => first | exact jJd_lo (by assumption) | exact jJd_hi (by assumption)
  refine wpAny_call ?_
  k_dflt cell_enter
  k_steps
  all_goals cb_end hret
end
end Mine

namespace Mine
def due (b : Bool) : List Int := if b = true then [3, 1, 1, 2, 2, 1, 2] else [2, 1, 1, 3, 1, 2, 2]
def bump (c : List Int) (i : Int) : List Int := c.set i.toNat (c.getD i.toNat 0 + 1)
def cnt (d0 : Int) (c : List Int) (ds : List Int) : List Int := ds.foldl (fun c d => bump c ((d - d0).fmod 7)) c
theorem cnt_turn {c pre ns z : List Int} {k : Int} (hl : c.length = 7) (hc : c = cnt (ns.getD 0 0) z pre) :
    (c.set ((k - ns.getD (Int.toNat 0) 0).fmod 7).toNat (c.getD ((k - ns.getD (Int.toNat 0) 0).fmod 7).toNat 0 + 1)).length = 7 ∧
    c.set ((k - ns.getD (Int.toNat 0) 0).fmod 7).toNat (c.getD ((k - ns.getD (Int.toNat 0) 0).fmod 7).toNat 0 + 1) = cnt (ns.getD 0 0) z (pre ++ [k]) := by
  refine ⟨by rw [List.length_set]; exact hl, ?_⟩
  rw [hc, cnt, cnt, List.foldl_append]
  rfl
theorem news_drop2 {h₀ h : Heap} {L : Addr} {p q : Addr × Obj} {rest : List (Addr × Obj)} (N : News h₀ L h (p :: q :: rest)) : News h₀ L h (p :: rest) := by
  refine cb_drop N fun x hx => ?_
  rcases List.mem_cons.mp hx with rfl | hx
  · exact .head _
  · exact .tail _ (.tail _ hx)
theorem allLt_all {d : Addr} : ∀ {l : List (Addr × Obj)}, AllLt d l → ∀ p ∈ l, p.1 < d
  | [], _, _, hp => nomatch hp
  | _ :: _, h, q, hq => by
    rcases List.mem_cons.mp hq with rfl | hq
    · exact h.1
    · exact allLt_all h.2 q hq
theorem lt_cons {d l : Addr} {o : Obj} {rest : List (Addr × Obj)} {P : Prop} (h : P ∧ l < d ∧ AllLt d rest) : ∀ p ∈ (l, o) :: rest, p.1 < d := allLt_all (l := (l, o) :: rest) ⟨h.2.1, h.2.2⟩
theorem ints7 {a b c d e f g : Int} {t1 t2 t3 t4 t5 t6 t7 : Tok} : IntsAre [.int a t1, .int b t2, .int c t3, .int d t4, .int e t5, .int f t6, .int g t7] [a, b, c, d, e, f, g] := by repeat constructor
section
variable {w : World} {mean : ExcName → Option Value} {mg mb : Str → Option Value} {news : List (Addr × Obj)}
  {dp un : Nat} {gd : Option (List Code)} {cn : Str} {cs : Scope} {a : Addr} {ccd : Value} {cl : List (Str × Addr)} {outer : List Env} {A₀ : Around} {base h₀ : Heap} {L : Addr} {lm : Str → Option Value} {s : Shared} {Q E : Value → Shared → Prop}

set_option maxRecDepth 100000
set_option maxHeartbeats 8000000

theorem c_due {b : Bool}
    (B : Below A₀ base outer h₀) (F : Fr h₀ L s.heap lm) (X : (Mine.hd.heap_39 w.params).In h₀) (N : News h₀ L s.heap news) (T : Top Mine.hd.view_39 LN mean mg mb h₀) (hk : cs.kind = .function)
    (hdp : dp + 2 < recursionLimit) (hret : ∀ D vs n h' tk', IntsAre vs (due b) → Fr h₀ L h' lm → News h₀ L h' ((D, listOf vs.toArray n) :: news) → (∀ p ∈ news, p.1 < D) → Q (.ref D) { s with heap := h', toks := tk' }) :
    wpAny (model Challenge.rw_bw0002_01.row.prog w) (ktrTop dp un gd cn cs L a ccd cl outer) (call (.ref 86) [.bool b]) Q E s := by
  revert X; k_fill; intro X
  k_with_none
  refine wpAny_call ?_
  k_dflt cell_enter
  k_steps
  all_goals (refine' hret _ _ _ _ _ ?ei ?eF ?eN ?el; (case eN => assumption); (case eF => assumption); (case el => assumption); (case ei => subst b; exact ints7))

theorem c_counts {l : Addr} {vs : List Value} {ns : List Int} {n : Nat} 
    (B : Below A₀ base outer h₀) (F : Fr h₀ L s.heap lm) (X : (Mine.hd.heap_39 w.params).In h₀) (N : News h₀ L s.heap ((l, listOf vs.toArray n) :: news)) (T : Top Mine.hd.view_39 LN mean mg mb h₀) (hk : cs.kind = .function)
    (hi : IntsAre vs ns) (h12 : ns.length = 12)
    (hdp : dp + 2 < recursionLimit)
 (hret : ∀ D vs' n' h' tk', IntsAre vs' (cnt (ns.getD 0 0) (List.replicate 7 0) ns) → Fr h₀ L h' lm → News h₀ L h' ((D, listOf vs'.toArray n') :: (l, listOf vs.toArray n) :: news) → (∀ p ∈ (l, listOf vs.toArray n) :: news, p.1 < D) → Q (.ref D) { s with heap := h', toks := tk' }) :
    wpAny (model Challenge.rw_bw0002_01.row.prog w) (ktrTop dp un gd cn cs L a ccd cl outer) (call (.ref 79) [.ref l]) Q E s := by
  revert X; k_fill; intro X
  k_with_none
  k_with "state" => first | exact ⟨rfl, rfl⟩ | exact cnt_turn (by assumption) (by assumption)
  k_with "pyIter ref" => (k_state_given ["days"] (fun days pre found => found.length = 7 ∧ found = cnt (days.getD 0 0) (List.replicate 7 0) pre) "found")
  refine wpAny_call ?_
  k_dflt cell_enter
  k_steps
  all_goals (refine' hret _ _ _ _ _ ?ei ?eF ?eN ?el; (case eN => exact news_drop2 (by assumption)); (case eF => assumption); (case el => exact lt_cons (by assumption)); (case ei => (rename (_ = cnt _ _ ns) => e9); rw [← e9]; assumption))
end
end Mine

namespace Mine
/-- the days of the thirteenths -/
def gDs (y : Int) : List Int := (rangeKs 1 ((13 : Int) - 1).toNat).map fun m => gJd y m 13
def jDs (y : Int) : List Int := (rangeKs 1 ((13 : Int) - 1).toNat).map fun m => jJd y m 13
theorem ks12 : rangeKs 1 ((13 : Int) - 1).toNat = [1, 2, 3, 4, 5, 6, 7, 8, 9, 10, 11, 12] := by decide
theorem fmodE (a : Int) {b : Int} (hb : 0 < b) : a.fmod b = a % b := Int.fmod_eq_emod_of_nonneg a (Int.le_of_lt hb)
theorem fdivE (a : Int) {b : Int} (hb : 0 < b) : a.fdiv b = a / b := Int.fdiv_eq_ediv_of_nonneg a (Int.le_of_lt hb)

theorem cnt_diff (d0 : Int) (c ds : List Int) : cnt d0 c ds = (ds.map fun d => d - d0).foldl (fun c e => bump c (e.fmod 7)) c := by
  rw [List.foldl_map]; rfl

theorem gDs_diff (y : Int) : (gDs y).map (fun d => d - (gDs y).getD 0 0) = if leapG y = true then [0, 31, 60, 91, 121, 152, 182, 213, 244, 274, 305, 335] else [0, 31, 59, 90, 120, 151, 181, 212, 243, 273, 304, 334] := by
  have e : gDs y = [1, 2, 3, 4, 5, 6, 7, 8, 9, 10, 11, 12].map fun m => gJd y m 13 := by rw [gDs, ks12]
  rw [e]
  cases h : leapG y <;> simp [gJd, h, List.getD] <;> omega

theorem law_g (y : Int) : cnt ((gDs y).getD 0 0) (List.replicate 7 0) (gDs y) = due (leapG y) := by
  rw [cnt_diff, gDs_diff]
  cases leapG y <;> decide

theorem four (y : Int) : ∃ q r : Int, y = 4 * q + r ∧ (r = 0 ∨ r = 1 ∨ r = 2 ∨ r = 3) := ⟨y / 4, y % 4, by omega, by omega⟩
theorem jDs_diff (y : Int) : (jDs y).map (fun d => d - (jDs y).getD 0 0) = if y % 4 = 0 then [0, 31, 60, 91, 121, 152, 182, 213, 244, 274, 305, 335] else [0, 31, 59, 90, 120, 151, 181, 212, 243, 273, 304, 334] := by
  have e : jDs y = [1, 2, 3, 4, 5, 6, 7, 8, 9, 10, 11, 12].map fun m => jJd y m 13 := by rw [jDs, ks12]
  rw [e]
  simp only [jJd, fdivE _ (show (0 : Int) < 4 by decide), fdivE _ (show (0 : Int) < 10000 by decide), List.map, List.getD]
  obtain ⟨q, r, rfl, hr⟩ := four y
  rcases hr with rfl | rfl | rfl | rfl <;> simp <;> omega

theorem law_j (y : Int) : cnt ((jDs y).getD 0 0) (List.replicate 7 0) (jDs y) = due (y.fmod 4 == 0) := by
  rw [cnt_diff, jDs_diff, fmodE _ (by decide)]
  by_cases h : y % 4 = 0
  · rw [if_pos h, h]; decide
  · rw [if_neg h, show (y % 4 == 0) = false from by simp [h]]; decide

theorem next_g (y : Int) : gJd (y + 1) 1 13 - gJd y (1 + 11) 13 = 31 := by
  simp only [gJd, leapG]
  simp only [fdivE _ (show (0 : Int) < 4 by decide), fdivE _ (show (0 : Int) < 12 by decide), fdivE _ (show (0 : Int) < 100 by decide), fdivE _ (show (0 : Int) < 400 by decide), fmodE _ (show (0 : Int) < 4 by decide), fmodE _ (show (0 : Int) < 100 by decide), fmodE _ (show (0 : Int) < 400 by decide)]
  by_cases h4 : y % 4 = 0 <;> by_cases h1 : y % 100 = 0 <;> by_cases h0 : y % 400 = 0 <;> simp [h4, h1, h0] <;> omega

theorem next_j (y : Int) : jJd (y + 1) 1 13 - jJd y (1 + 11) 13 = 31 := by
  simp only [jJd]
  simp only [fdivE _ (show (0 : Int) < 4 by decide), fdivE _ (show (0 : Int) < 10000 by decide)]
  simp <;> omega
theorem now_g : gJd 2025 1 13 = 2460689 := by decide
theorem now_j : jJd 2025 1 13 = 2460702 := by decide

/-- what a year's turn of the great loop makes of the counts -/
def turn7 (c : List Int) (d0 : Int) (f : List Int) : List Int :=
  [0, 1, 2, 3, 4, 5, 6].foldl (fun c (k : Int) => c.set ((d0 + k).fmod 7).toNat (c.getD ((d0 + k).fmod 7).toNat 0 + f.getD k.toNat 0)) c
def yr (c : List Int) (y : Int) : List Int := turn7 c ((jDs y).getD 0 0) (due (y.fmod 4 == 0))
def yrs (Y : Int) : Nat → List Int
  | 0 => List.replicate 7 0
  | i + 1 => yr (yrs Y i) (Y + i)

theorem turn7_mod (c f : List Int) {a b : Int} (h : a % 7 = b % 7) : turn7 c a f = turn7 c b f := by
  have e : ∀ k : Int, (a + k).fmod 7 = (b + k).fmod 7 := fun k => by
    rw [fmodE _ (by decide), fmodE _ (by decide)]; omega
  simp only [turn7, e]
theorem jd0 (y : Int) : (jDs y).getD 0 0 = jJd y 1 13 := by rw [jDs, ks12]; rfl
theorem yr_mod (c : List Int) {a b : Int} (h : a % 28 = b % 28) : yr c a = yr c b := by
  unfold yr
  have h4 : a.fmod 4 = b.fmod 4 := by rw [fmodE _ (by decide), fmodE _ (by decide)]; omega
  rw [h4]
  refine turn7_mod _ _ ?_
  rw [jd0, jd0]
  simp only [jJd, fdivE _ (show (0 : Int) < 4 by decide)]
  simp only [show (1 : Int) ≤ 2 from by decide, if_true]
  obtain ⟨t, rfl⟩ : ∃ t, a = b + 28 * t := ⟨(a - b) / 28, by omega⟩
  obtain ⟨q, r, rfl, hr⟩ := four b
  rcases hr with rfl | rfl | rfl | rfl <;> omega
theorem yrs_mod {a b : Int} (h : a % 28 = b % 28) : ∀ i, yrs a i = yrs b i
  | 0 => rfl
  | i + 1 => by
    show yr (yrs a i) (a + i) = yr (yrs b i) (b + i)
    rw [yrs_mod h i]
    exact yr_mod _ (by omega)
theorem all28 : ∀ r : Fin 28, yrs (r.val : Int) 28 = List.replicate 7 48 := by decide +kernel
theorem law_28 (Y : Int) : yrs Y 28 = List.replicate 7 48 := by
  have h0 : 0 ≤ Y % 28 := Int.emod_nonneg _ (by decide)
  have h1 : Y % 28 < 28 := Int.emod_lt_of_pos _ (by decide)
  have e : yrs Y 28 = yrs (((Y % 28).toNat : Nat) : Int) 28 := yrs_mod (by rw [Int.toNat_of_nonneg h0]; omega) 28
  rw [e]
  exact all28 ⟨(Y % 28).toNat, by omega⟩
theorem turn7_len (c f : List Int) (d0 : Int) : (turn7 c d0 f).length = c.length := by
  simp only [turn7, List.foldl, List.length_set]
theorem yrs_len (Y : Int) : ∀ i, (yrs Y i).length = 7
  | 0 => rfl
  | i + 1 => by
    show (yr (yrs Y i) (Y + i)).length = 7
    rw [yr, turn7_len, yrs_len Y i]
end Mine

namespace Mine
section
variable {prog : Program} {w : World} {A : Around} {E : Value → Shared → Prop} {s : Shared} {env : Env} {h₀ : Heap} {x : Str} {px : Pos} {body : List Stmt} {Q : Flow → Shared → Prop}

def TurnOut (h₀ : Heap) (L : Addr) (cnm : Str) (C co cy : Addr) (oy : Obj) (I : Addr) (io : Obj) (g : List Int) (s₁ s₃ : Shared) : Prop :=
  ∃ h' tk m' vs k oc v, s₃ = { s₁ with heap := h', toks := tk } ∧ Fr h₀ L h' m' ∧ m' cnm = some (.ref C) ∧ News h₀ L h' [(C, listOf vs.toArray k), (co, oc), (cy, oy), (I, io)] ∧ IntsAre vs g ∧ oc.data = .cell v
def TurnEnd (h₀ : Heap) (L : Addr) (cnm : Str) (C co cy : Addr) (oy : Obj) (I : Addr) (io : Obj) (g : List Int) (s₁ : Shared) (Q : Flow → Shared → Prop) (f : Flow) (s₃ : Shared) : Prop :=
  match f with
  | .ret v => Q (.ret v) s₃
  | .brk => Q .next s₃
  | _ => TurnOut h₀ L cnm C co cy oy I io g s₁ s₃

theorem frame_named {L C : Addr} {h : Heap} {m : Str → Option Value} {cnm : Str} (hm : m cnm = some (.ref C)) (F : Fr h₀ L h m) : Fr h₀ L h (fun y => if y = cnm then some (.ref C) else m y) := by
  have e : (fun y => if y = cnm then some (Value.ref C) else m y) = m := by
    funext y
    by_cases hy : y = cnm
    · rw [if_pos hy, hy, hm]
    · rw [if_neg hy]
  rw [e]
  exact F

/-- a loop whose name is a cell: what every turn keeps is a list of ints at C, the name's cell and one more cell -/
theorem loop_core {it : Obj} {a₀ : Int} {n : Nat} {St : Nat → Heap → Prop} {m₀ : Str → Option Value} {news₀ : List (Addr × Obj)} {C co cy : Addr} {oy oc₀ : Obj} {vs₀ : List Value} {n₀ : Nat} {v₀ : Option Value} (G : Nat → List Int) (cnm : Str)
    (W : Walks prog w A s.heap.objs.size [s.heap.objs.size] [s.heap.objs.size] n (fun i v => ∃ t, v = .int (a₀ + i * 1) t) St) (hst : St 0 (s.heap.push it)) (hSt : ∀ i h, St i h → ∃ o, h.get? s.heap.objs.size = some o)
    (F : Fr h₀ env.locals s.heap m₀) (N : News h₀ env.locals s.heap news₀) (hsub : ∀ p ∈ [(C, listOf vs₀.toArray n₀), (co, oc₀), (cy, oy)], p ∈ news₀)
    (hi : IntsAre vs₀ (G 0)) (hm : m₀ cnm = some (.ref C)) (hoc : oc₀.data = .cell v₀)
    (turn : ∀ (i : Nat) (vs : List Value) (k : Nat) (oc : Obj) (v : Option Value) (u : Str → Option Value) (h : Heap) (tk : Nat) (I : Addr) (io : Obj) (t : Tok),
      i < n → (@LT.lt Nat _ C I ∧ @LT.lt Nat _ co I ∧ @LT.lt Nat _ cy I) → IntsAre vs (G i) → oc.data = .cell v →
      Fr h₀ env.locals h (fun y => if y = cnm then some (.ref C) else u y) → News h₀ env.locals h [(C, listOf vs.toArray k), (co, oc), (cy, oy), (I, io)] →
      wpAny (model prog w) A (assign (.Name x px) env (.int (a₀ + (i : Int)) t)) (fun _ s₃ => wpAny (model prog w) A (execs body env) (TurnEnd h₀ env.locals cnm C co cy oy I io (G (i + 1)) { s with heap := h, toks := tk } Q) E s₃) E { s with heap := h, toks := tk })
    (done : ∀ (vs : List Value) (k : Nat) (oc : Obj) (v : Option Value) (u : Str → Option Value) (h : Heap) (tk : Nat), IntsAre vs (G n) → oc.data = .cell v →
      Fr h₀ env.locals h (fun y => if y = cnm then some (.ref C) else u y) → News h₀ env.locals h [(C, listOf vs.toArray k), (co, oc), (cy, oy)] → Q .next { s with heap := h, toks := tk }) :
    TurnsAt prog w A h₀ env (.Name x px) body Q E (.ref s.heap.objs.size) { s with heap := s.heap.push it } := by
  have N₀ : News h₀ env.locals s.heap [(C, listOf vs₀.toArray n₀), (co, oc₀), (cy, oy)] := fun p hp => N p (hsub p hp)
  have hlt : ∀ b ∈ [C, co, cy], b < s.heap.objs.size := by
    intro b hb
    rcases List.mem_cons.mp hb with rfl | hb
    · exact Heap.lt_size (N₀ _ (.head _)).1
    · rcases List.mem_cons.mp hb with rfl | hb
      · exact Heap.lt_size (N₀ _ (.tail _ (.head _))).1
      · rw [List.mem_singleton.mp hb]
        exact Heap.lt_size (N₀ _ (.tail _ (.tail _ (.head _)))).1
  have hoff : ∀ (C' : Obj) (co' : Obj), ∀ p ∈ [(C, C'), (co, co'), (cy, oy)], p.1 ∉ [s.heap.objs.size] := by
    intro C' co' p hp hI
    refine absurd (hlt p.1 ?_) ((List.mem_singleton.mp hI) ▸ Nat.lt_irrefl _)
    have h3 := List.mem_map_of_mem (f := (·.1)) hp
    exact h3
  have W' := W.bound
  refine ⟨s.heap.objs.size, [s.heap.objs.size], [s.heap.objs.size], n, _, _, _, m₀, [(C, listOf vs₀.toArray n₀), (co, oc₀), (cy, oy)],
    (fun i m nx => ∃ vs k oc v, nx = [(C, listOf vs.toArray k), (co, oc), (cy, oy)] ∧ IntsAre vs (G i) ∧ oc.data = .cell v ∧ m cnm = some (.ref C)),
    rfl, KTurns.ofWalks W' (fun i v s Q E _ q => wpAny_pure q), ?_, ?_, hoff _ _, hst, F.push _, (fun p hp => ⟨Heap.get?_push_of_some _ (N₀ p hp).1, (N₀ p hp).2⟩), ⟨vs₀, n₀, oc₀, v₀, rfl, hi, hoc, hm⟩, ?_, ?_⟩
  · intro hI
    exact absurd F.ns.lt ((List.mem_singleton.mp hI) ▸ Nat.lt_irrefl _)
  · intro b hb
    rw [List.mem_singleton.mp hb]
    exact next_is_new F
  · rintro i v m₁ news₁ h₁ tk₁ own hlt₁ ⟨hin, t, rfl⟩ ⟨vs, k, oc, v', rfl, hi₁, hoc₁, hm₁⟩ hoff₁ hown hget hall hst₁ F₁ N₁
    have e1 : a₀ + (i : Int) * 1 = a₀ + (i : Int) := by omega
    rw [e1]
    obtain ⟨io, hio⟩ := hSt _ _ hst₁
    have hIown : (s.heap.objs.size, io) ∈ own := hall _ (List.mem_singleton.mpr rfl) (next_is_new F) io hio
    have ownIs : ∀ p ∈ own, p = (s.heap.objs.size, io) := by
      intro p hp
      have e2 := hown p hp
      rw [List.mem_singleton] at e2
      have e3 := hget p hp
      rw [e2, hio] at e3
      exact Prod.ext e2 (Option.some.inj e3).symm
    have N₂ : News h₀ env.locals h₁ [(C, listOf vs.toArray k), (co, oc), (cy, oy), (s.heap.objs.size, io)] := by
      intro p hp
      refine N₁ p ?_
      rcases List.mem_cons.mp hp with rfl | hp
      · exact List.mem_append_right _ (.head _)
      · rcases List.mem_cons.mp hp with rfl | hp
        · exact List.mem_append_right _ (.tail _ (.head _))
        · rcases List.mem_cons.mp hp with rfl | hp
          · exact List.mem_append_right _ (.tail _ (.tail _ (.head _)))
          · rw [List.mem_singleton.mp hp]
            exact List.mem_append_left _ hIown
    refine wpAny_mono (turn i vs k oc v' m₁ h₁ tk₁ s.heap.objs.size io t hlt₁ ⟨hlt _ (.head _), hlt _ (.tail _ (.head _)), hlt _ (.tail _ (.tail _ (.head _)))⟩ hi₁ hoc₁ (frame_named hm₁ F₁) N₂) (fun _ s₃ h₃ => wpAny_mono h₃ (fun f s₄ h₄ => ?_) fun _ _ e => e) fun _ _ e => e
    have fin : TurnOut h₀ env.locals cnm C co cy oy s.heap.objs.size io (G (i + 1)) { s with heap := h₁, toks := tk₁ } s₄ →
        LoopStepU h₀ env.locals [s.heap.objs.size] own (fun m nx => ∃ vs k oc v, nx = [(C, listOf vs.toArray k), (co, oc), (cy, oy)] ∧ IntsAre vs (G (i + 1)) ∧ oc.data = .cell v ∧ m cnm = some (.ref C)) { s with heap := h₁, toks := tk₁ } .next s₄ := by
      rintro ⟨h', tk, m', vs', k', oc', w', e, F', hm', N', hi', hoc'⟩
      refine ⟨rfl, h', tk, m', [(C, listOf vs'.toArray k'), (co, oc'), (cy, oy)], e, F', ?_, hoff _ _, vs', k', oc', w', rfl, hi', hoc', hm'⟩
      intro p hp
      refine N' p ?_
      rcases List.mem_append.mp hp with hp | hp
      · rw [ownIs p hp]
        exact .tail _ (.tail _ (.tail _ (.head _)))
      · rcases List.mem_cons.mp hp with rfl | hp
        · exact .head _
        · rcases List.mem_cons.mp hp with rfl | hp
          · exact .tail _ (.head _)
          · rw [List.mem_singleton.mp hp]
            exact .tail _ (.tail _ (.head _))
    cases f with
    | ret v => exact .ret h₄
    | brk => exact .brk h₄
    | next => exact .next (fin h₄)
    | cont => exact .cont (fin h₄)
  · rintro h' tk m' news' F' N' _ ⟨vs, k, oc, v, rfl, hi', hoc', hm'⟩
    exact done vs k oc v m' h' tk hi' hoc' (frame_named hm' F') N'

theorem loop_cell {r : Addr} {a₀ b₀ : Int} {t₀ u₀ w₀ : Tok} {n : Nat} {m₀ : Str → Option Value} {news₀ : List (Addr × Obj)} {C co cy : Addr} {oy oc₀ : Obj} {vs₀ : List Value} {n₀ : Nat} {v₀ : Option Value} (G : Nat → List Int) (cnm : Str)
    (hh : A.handled = none) (hr : IsRange s.heap r a₀ b₀ 1 t₀ u₀ w₀) (hn : Builtin.Range.rangeSize a₀ b₀ 1 = (n : Int))
    (F : Fr h₀ env.locals s.heap m₀) (N : News h₀ env.locals s.heap news₀) (hsub : ∀ p ∈ [(C, listOf vs₀.toArray n₀), (co, oc₀), (cy, oy)], p ∈ news₀)
    (hi : IntsAre vs₀ (G 0)) (hm : m₀ cnm = some (.ref C)) (hoc : oc₀.data = .cell v₀)
    (turn : ∀ (i : Nat) (vs : List Value) (k : Nat) (oc : Obj) (v : Option Value) (u : Str → Option Value) (h : Heap) (tk : Nat) (I : Addr) (io : Obj) (t : Tok),
      i < n → (@LT.lt Nat _ C I ∧ @LT.lt Nat _ co I ∧ @LT.lt Nat _ cy I) → IntsAre vs (G i) → oc.data = .cell v →
      Fr h₀ env.locals h (fun y => if y = cnm then some (.ref C) else u y) → News h₀ env.locals h [(C, listOf vs.toArray k), (co, oc), (cy, oy), (I, io)] →
      wpAny (model prog w) A (assign (.Name x px) env (.int (a₀ + (i : Int)) t)) (fun _ s₃ => wpAny (model prog w) A (execs body env) (TurnEnd h₀ env.locals cnm C co cy oy I io (G (i + 1)) { s with heap := h, toks := tk } Q) E s₃) E { s with heap := h, toks := tk })
    (done : ∀ (vs : List Value) (k : Nat) (oc : Obj) (v : Option Value) (u : Str → Option Value) (h : Heap) (tk : Nat), IntsAre vs (G n) → oc.data = .cell v →
      Fr h₀ env.locals h (fun y => if y = cnm then some (.ref C) else u y) → News h₀ env.locals h [(C, listOf vs.toArray k), (co, oc), (cy, oy)] → Q .next { s with heap := h, toks := tk }) :
    wpAny (model prog w) A (pyIter (.ref r)) (fun it s₂ => TurnsAt prog w A h₀ env (.Name x px) body Q E it s₂) E s := by
  by_cases hsm : Builtin.Range.small a₀ b₀ 1 = true
  · exact wpAny_pyIter_range hr hsm (loop_core G cnm (Walks.range hh _ a₀ 1 n) (by show IsRangeIter _ _ _ _ _; rw [hn]; simpa using Heap.get?_push_size _ rfl) (fun _ _ st => ⟨_, st⟩) F N hsub hi hm hoc turn done)
  · exact wpAny_pyIter_longrange hr (by simpa using hsm) (loop_core G cnm (Walks.longrange hh _ a₀ 1 n) (by show IsLongIter _ _ _ _ _; rw [hn]; simpa using Heap.get?_push_size _ rfl) (fun _ _ st => ⟨_, st⟩) F N hsub hi hm hoc turn done)

theorem For_cell {iter : Expr} {pos : Pos} {m : Str → Option Value} (F : Fr h₀ env.locals s.heap m) (_hx : env.kindOf x = some .cell)
    (h : wpAny (model prog w) A (eval iter env) (fun xv s₁ => wpAny (model prog w) A (pyIter xv) (fun it s₂ => TurnsAt prog w A h₀ env (.Name x px) body Q E it s₂) E s₁) E s)
    (hs : ∀ x, foldedSetIterable iter env x = pure x := by intro _; rfl)
    (hE : PassesOwn (model prog w) A env E := by passes_own) :
    wpAny (model prog w) A (exec (.For (.Name x px) iter body [] pos) env) Q E s := For_turns F h hs hE
end
end Mine

namespace Mine
theorem due_len {b : Bool} : (due b).length = 7 := by cases b <;> rfl
theorem next_j' {Y y : Int} (h : y = Y) : jJd (Y + 1) 1 13 - (List.map (fun k => jJd y k 13) (rangeKs 1 ((13 : Int) - 1).toNat)).getD (Int.toNat 11) 0 = 31 := by
  rw [h, ks12]
  exact next_j Y
section
variable {w : World} {mean : ExcName → Option Value} {mg mb : Str → Option Value} {news : List (Addr × Obj)}
  {dp un : Nat} {gd : Option (List Code)} {cn : Str} {cs : Scope} {a : Addr} {ccd : Value} {cl : List (Str × Addr)} {outer : List Env} {A₀ : Around} {base h₀ : Heap} {L : Addr} {lm : Str → Option Value} {s : Shared} {Q E : Value → Shared → Prop}
theorem c_counts_g {l : Addr} {vs : List Value} {y : Int} {n : Nat}
    (B : Below A₀ base outer h₀) (F : Fr h₀ L s.heap lm) (X : (Mine.hd.heap_39 w.params).In h₀) (N : News h₀ L s.heap ((l, listOf vs.toArray n) :: news)) (T : Top Mine.hd.view_39 LN mean mg mb h₀) (hk : cs.kind = .function)
    (hi : IntsAre vs (List.map (fun k => gJd y k 13) (rangeKs 1 ((13 : Int) - 1).toNat))) (hdp : dp + 2 < recursionLimit)
    (hret : ∀ D vs' n' h' tk', IntsAre vs' (due (leapG y)) → (due (leapG y)).length = 7 → Fr h₀ L h' lm → News h₀ L h' ((D, listOf vs'.toArray n') :: (l, listOf vs.toArray n) :: news) → (∀ p ∈ (l, listOf vs.toArray n) :: news, p.1 < D) → Q (.ref D) { s with heap := h', toks := tk' }) :
    wpAny (model Challenge.rw_bw0002_01.row.prog w) (ktrTop dp un gd cn cs L a ccd cl outer) (call (.ref 79) [.ref l]) Q E s := by
  refine c_counts B F X N T hk hi (by rw [ks12]; rfl) hdp fun D vs' n' h' tk' i9 => ?_
  have e := law_g y
  unfold gDs at e
  rw [e] at i9
  exact hret D vs' n' h' tk' i9 due_len
theorem c_counts_j {l : Addr} {vs : List Value} {y : Int} {n : Nat}
    (B : Below A₀ base outer h₀) (F : Fr h₀ L s.heap lm) (X : (Mine.hd.heap_39 w.params).In h₀) (N : News h₀ L s.heap ((l, listOf vs.toArray n) :: news)) (T : Top Mine.hd.view_39 LN mean mg mb h₀) (hk : cs.kind = .function)
    (hi : IntsAre vs (List.map (fun k => jJd y k 13) (rangeKs 1 ((13 : Int) - 1).toNat))) (hdp : dp + 2 < recursionLimit)
    (hret : ∀ D vs' n' h' tk', IntsAre vs' (due (y.fmod 4 == 0)) → (due (y.fmod 4 == 0)).length = 7 → Fr h₀ L h' lm → News h₀ L h' ((D, listOf vs'.toArray n') :: (l, listOf vs.toArray n) :: news) → (∀ p ∈ (l, listOf vs.toArray n) :: news, p.1 < D) → Q (.ref D) { s with heap := h', toks := tk' }) :
    wpAny (model Challenge.rw_bw0002_01.row.prog w) (ktrTop dp un gd cn cs L a ccd cl outer) (call (.ref 79) [.ref l]) Q E s := by
  refine c_counts B F X N T hk hi (by rw [ks12]; rfl) hdp fun D vs' n' h' tk' i9 => ?_
  have e := law_j y
  unfold jDs at e
  rw [e] at i9
  exact hret D vs' n' h' tk' i9 due_len
end
section
variable {prog : Program} {w : World} {A : Around} {E : Value → Shared → Prop} {s : Shared} {env : Env} {h₀ : Heap} {x : Str} {px : Pos} {body : List Stmt} {Q : Flow → Shared → Prop}
theorem size28 (Y : Int) : Builtin.Range.rangeSize Y (Y + 28) 1 = ((28 : Nat) : Int) := by
  unfold Builtin.Range.rangeSize
  simp
  omega
theorem loop_yrs {r : Addr} {Y : Int} {t₀ u₀ w₀ : Tok} {m₀ : Str → Option Value} {news₀ : List (Addr × Obj)} {C co cy : Addr} {oy oc₀ : Obj} {vs₀ : List Value} {n₀ : Nat} {v₀ : Option Value}
    (hh : A.handled = none) (hr : IsRange s.heap r Y (Y + 28) 1 t₀ u₀ w₀)
    (F : Fr h₀ env.locals s.heap m₀) (N : News h₀ env.locals s.heap news₀) (hm : m₀ (Str.ofString "counts") = some (.ref C)) (hlo : env.cells.lookup (Str.ofString "other") = some co) (hly : env.cells.lookup (Str.ofString "year") = some cy)
    (h1 : (C, listOf vs₀.toArray n₀) ∈ news₀) (h2 : (co, oc₀) ∈ news₀) (h3 : (cy, oy) ∈ news₀)
    (hi : IntsAre vs₀ (List.replicate 7 0)) (hoc : oc₀.data = .cell v₀)
    (turn : ∀ (i : Nat) (cs : List Int) (y : Int) (vs : List Value) (k : Nat) (oc : Obj) (v : Option Value) (u : Str → Option Value) (h : Heap) (tk : Nat) (I : Addr) (io : Obj) (t : Tok),
      (@LT.lt Nat _ C I ∧ @LT.lt Nat _ co I ∧ @LT.lt Nat _ cy I) → cs.length = 7 → cs = yrs Y i → y = Y + (i : Int) → IntsAre vs cs → oc.data = .cell v →
      Fr h₀ env.locals h (fun y => if y = Str.ofString "counts" then some (.ref C) else u y) → News h₀ env.locals h [(C, listOf vs.toArray k), (co, oc), (cy, oy), (I, io)] →
      wpAny (model prog w) A (assign (.Name x px) env (.int y t)) (fun _ s₃ => wpAny (model prog w) A (execs body env) (TurnEnd h₀ env.locals (Str.ofString "counts") C co cy oy I io (yr cs y) { s with heap := h, toks := tk } Q) E s₃) E { s with heap := h, toks := tk })
    (done : ∀ (vs : List Value) (k : Nat) (oc : Obj) (v : Option Value) (u : Str → Option Value) (h : Heap) (tk : Nat), IntsAre vs (List.replicate 7 48) → oc.data = .cell v →
      Fr h₀ env.locals h (fun y => if y = Str.ofString "counts" then some (.ref C) else u y) → News h₀ env.locals h [(C, listOf vs.toArray k), (co, oc), (cy, oy)] → Q .next { s with heap := h, toks := tk }) :
    wpAny (model prog w) A (pyIter (.ref r)) (fun it s₂ => TurnsAt prog w A h₀ env (.Name x px) body Q E it s₂) E s := by
  refine loop_cell (C := C) (co := co) (cy := cy) (oy := oy) (n₀ := n₀) (yrs Y) (Str.ofString "counts") hh hr (size28 Y) F N ?_ hi hm hoc ?_ ?_
  · intro p hp
    rcases List.mem_cons.mp hp with rfl | hp
    · exact h1
    · rcases List.mem_cons.mp hp with rfl | hp
      · exact h2
      · rw [List.mem_singleton.mp hp]
        exact h3
  · intro i vs k oc v u h tk I io t _ hO hi' hoc' F' N'
    exact turn i (yrs Y i) _ vs k oc v u h tk I io t hO (yrs_len Y i) rfl rfl hi' hoc' F' N'
  · intro vs k oc v u h tk hi' hoc' F' N'
    rw [law_28] at hi'
    exact done vs k oc v u h tk hi' hoc' F' N'
end
section
variable {prog : Program} {w : World} {A : Around} {E : Value → Shared → Prop} {s : Shared} {h₀ : Heap} {L D : Addr} {m : Str → Option Value} {news : List (Addr × Obj)} {vs : List Value} {ns : List Int} {n : Nat} {k x : Int} {t u : Tok}
/-- xs[k] = x on a list of ints: the new list is a letter of its own -/
theorem set_abs {Q : Unit → Shared → Prop} (g : List Value → List (Addr × Obj)) (F : Fr h₀ L s.heap m) (N : News h₀ L s.heap news) (U : ∀ us : List Value, Upd D (listOf vs.toArray n) (listOf us.toArray n) news (g us)) (hi : IntsAre vs ns) (h0 : 0 ≤ k) (h1 : k < ns.length) (hfit : k < 2 ^ 63)
    (h : ∀ h' us ms, Fr h₀ L h' m → News h₀ L h' (g us) → IntsAre us ms → ms.length = ns.length → ms = ns.set k.toNat x → Q () { s with heap := h' }) :
    wpAny (model prog w) A (setItem (.ref D) (.int k t) (.int x u)) Q E s :=
  ksa_set F N (U _) hi h0 h1 hfit fun h' F' N' i' l' _ => h h' _ _ F' N' i' l' rfl
end
/-- one step of the inner loop, as the walk says it -/
def yst (c : List Int) (y k : Int) : List Int :=
  c.set (((List.map (fun m => jJd y m 13) (rangeKs 1 ((13 : Int) - 1).toNat)).getD (Int.toNat 0) 0 + k).fmod 7).toNat
    (c.getD (((List.map (fun m => jJd y m 13) (rangeKs 1 ((13 : Int) - 1).toNat)).getD (Int.toNat 0) 0 + k).fmod 7).toNat 0 + (due (y.fmod 4 == 0)).getD k.toNat 0)
theorem yr_yst (cs : List Int) (y : Int) : yr cs y = yst (yst (yst (yst (yst (yst (yst cs y 0) y 1) y 2) y 3) y 4) y 5) y 6 := rfl
theorem yr_chain {cs m1 m2 m3 m4 m5 m6 m7 : List Int} {y : Int} (h7 : m7 = yst m6 y (0 + ((0 + 1 + 1 + 1 + 1 + 1 + 1 : Nat) : Int))) (h6 : m6 = yst m5 y (0 + ((0 + 1 + 1 + 1 + 1 + 1 : Nat) : Int))) (h5 : m5 = yst m4 y (0 + ((0 + 1 + 1 + 1 + 1 : Nat) : Int))) (h4 : m4 = yst m3 y (0 + ((0 + 1 + 1 + 1 : Nat) : Int))) (h3 : m3 = yst m2 y (0 + ((0 + 1 + 1 : Nat) : Int))) (h2 : m2 = yst m1 y (0 + ((0 + 1 : Nat) : Int))) (h1 : m1 = yst cs y (0 + ((0 : Nat) : Int))) : m7 = yr cs y := by
  rw [yr_yst, h7, h6, h5, h4, h3, h2, h1]
  rfl
theorem turn_end {h₀ h' : Heap} {L C co cy I : Addr} {oy io oc : Obj} {cnm : Str} {m' : Str → Option Value} {big : List (Addr × Obj)} {vs : List Value} {ms g : List Int} {k tk : Nat} {v : Option Value} {s₁ : Shared} {Q : Flow → Shared → Prop}
    (F : Fr h₀ L h' m') (hm : m' cnm = some (.ref C)) (N : News h₀ L h' big) (h1 : (C, listOf vs.toArray k) ∈ big) (h2 : (co, oc) ∈ big) (h3 : (cy, oy) ∈ big) (h4 : (I, io) ∈ big)
    (hi : IntsAre vs ms) (e : ms = g) (hoc : oc.data = .cell v) : TurnEnd h₀ L cnm C co cy oy I io g s₁ Q .next { s₁ with heap := h', toks := tk } := by
  subst e
  refine ⟨h', tk, m', vs, k, oc, v, rfl, F, hm, ?_, hi, hoc⟩
  intro p hp
  refine N p ?_
  rcases List.mem_cons.mp hp with rfl | hp
  · exact h1
  · rcases List.mem_cons.mp hp with rfl | hp
    · exact h2
    · rcases List.mem_cons.mp hp with rfl | hp
      · exact h3
      · rw [List.mem_singleton.mp hp]
        exact h4
end Mine

namespace Mine
def LongEnd (Y : Int) (s : Shared) (v : Value) (s' : Shared) : Prop := v = .bool (leapG Y) ∧ ∃ tk, s' = { s with toks := tk }
theorem join_long {M : Model} {A : Around} {T : Sem Value} {Q : Value → Shared → Prop} {E : Value → Shared → Prop} {s : Shared} {o : Obj} {Y : Int} {t : Tok} (_hd : o.data = .cell (some (.int Y t)))
    (walk : wpAny M A T (fun v s' => LongEnd Y s v s') E s) (cont : ∀ tk, Q (.bool (leapG Y)) { s with toks := tk }) : wpAny M A T Q E s :=
  wpAny_mono walk (fun v s' h => by obtain ⟨rfl, tk, rfl⟩ := h; exact cont tk) fun _ _ h => h
theorem long1 {Y : Int} (h : Y.fmod 400 = 0) : (Y.fmod 400 == 0) = leapG Y := by
  rw [fmodE _ (by decide)] at h ⊢
  have h4 : Y % 4 = 0 := by omega
  have h1 : Y % 100 = 0 := by omega
  simp [leapG, fmodE _ (show (0 : Int) < 400 by decide), fmodE _ (show (0 : Int) < 100 by decide), fmodE _ (show (0 : Int) < 4 by decide), h, h4]
theorem long2 {Y : Int} (h : ¬ Y.fmod 400 = 0) (h4 : Y.fmod 4 = 0) : (Y.fmod 100 != 0) = leapG Y := by
  simp only [leapG, h, h4]
  by_cases h1 : Y.fmod 100 = 0 <;> simp [h1]
theorem long3 {Y : Int} (h4 : ¬ Y.fmod 4 = 0) : (Y.fmod 4 == 0) = leapG Y := by
  simp [leapG, h4]
theorem long_end {Y : Int} {s : Shared} {b : Bool} {tk : Nat} (e : b = leapG Y) : LongEnd Y s (.bool b) { s with toks := tk } := ⟨congrArg Value.bool e, tk, rfl⟩

theorem ne_same {prog : Program} {w : World} {A : Around} {E : Value → Shared → Prop} {s : Shared} {a b : Addr} {vs us : List Value} {ns ms : List Int} {Q : Value → Shared → Prop} (hl : s.heap.IsList a vs.toArray) (hi : IntsAre vs ns) (hl' : s.heap.IsList b us.toArray) (hi' : IntsAre us ms) (hu : A.units + 64 < cLine)
    (e : ns = ms) (h : Q (.bool false) s) : wpAny (model prog w) A (compareOp .NotEq (.ref a) (.ref b)) Q E s := ne_intsK hl hi hl' hi' hu (by rw [decide_eq_true e]; exact h)
theorem eq_same {prog : Program} {w : World} {A : Around} {E : Value → Shared → Prop} {s : Shared} {a b : Addr} {vs us : List Value} {ns ms : List Int} {Q : Value → Shared → Prop} (hl : s.heap.IsList a vs.toArray) (hi : IntsAre vs ns) (hl' : s.heap.IsList b us.toArray) (hi' : IntsAre us ms) (hu : A.units + 64 < cLine)
    (e : ns = ms) (h : Q (.bool true) s) : wpAny (model prog w) A (compareOp .Eq (.ref a) (.ref b)) Q E s := eq_intsK hl hi hl' hi' hu (by rw [decide_eq_true e]; exact h)
theorem ne_int_same {prog : Program} {w : World} {A : Around} {E : Value → Shared → Prop} {s : Shared} {a b : Int} {t u : Tok} {Q : Value → Shared → Prop} (e : a = b) (h : Q (.bool false) s) : wpAny (model prog w) A (compareOp .NotEq (.int a t) (.int b u)) Q E s :=
  ne_int (by rw [e, show (b != b) = false from by simp]; exact h)

local macro_rules | `(tactic| walk_at "call ref") => `(tactic| (k_here; k_dflt (refine' c_gjd ?k1 ?k2 ?k3 ?k4 ?k5 ?kK ?kd ?_; (case k1 => k_asm); (case k2 => k_asm); (case k3 => k_asm); (case k4 => k_asm); (case k5 => k_asm); (case kK => first | exact rfl | assumption); (case kd => ktr_room); intro t9 h9 tk9 F9 N9; (try dsimp only); (try k_fold))))
local macro_rules | `(tactic| walk_at "call ref") => `(tactic| (k_here; k_dflt (refine' c_jjd ?k1 ?k2 ?k3 ?k4 ?k5 ?kK ?kd ?_; (case k1 => k_asm); (case k2 => k_asm); (case k3 => k_asm); (case k4 => k_asm); (case k5 => k_asm); (case kK => first | exact rfl | assumption); (case kd => ktr_room); intro t9 h9 tk9 F9 N9; (try dsimp only); (try k_fold))))
local macro_rules | `(tactic| walk_at "call ref") => `(tactic| (k_here; k_dflt (refine' c_due ?k1 ?k2 ?k3 ?k4 ?k5 ?kK ?kd ?_; (case k1 => k_asm); (case k2 => k_asm); (case k3 => k_asm); (case k4 => k_asm); (case k5 => k_asm); (case kK => first | exact rfl | assumption); (case kd => ktr_room); intro D9 vs9 n9 h9 tk9 i9 F9 N9 l1; (try dsimp only); (try k_lt l1); (try k_fold))))
local macro_rules | `(tactic| walk_at "call ref") => `(tactic| (k_here; k_dflt (refine' c_counts_g ?k1 ?k2 ?k3 ?k4 ?k5 ?kK ?ki ?kd ?_; (case k1 => k_asm); (case k2 => k_asm); (case k3 => k_asm); (case k4 => k_asm); (case k5 => k_asm); (case kK => first | exact rfl | assumption); (case ki => with_reducible assumption); (case kd => ktr_room); intro D9 vs9 n9 h9 tk9 i9 hl9 F9 N9 l1; (try dsimp only); (try k_lt l1); (try k_fold))))
local macro_rules | `(tactic| walk_at "call ref") => `(tactic| (k_here; k_dflt (refine' c_counts_j ?k1 ?k2 ?k3 ?k4 ?k5 ?kK ?ki ?kd ?_; (case k1 => k_asm); (case k2 => k_asm); (case k3 => k_asm); (case k4 => k_asm); (case k5 => k_asm); (case kK => first | exact rfl | assumption); (case ki => with_reducible assumption); (case kd => ktr_room); intro D9 vs9 n9 h9 tk9 i9 hl9 F9 N9 l1; (try dsimp only); (try k_lt l1); (try k_fold))))
local macro_rules | `(tactic| walk_at "eval BoolOp") => `(tactic| (k_here; (fail_if_success (with_reducible show wpAny _ _ _ (fun v s' => LongEnd _ _ v s') _ _)); (with_reducible show wpAny _ _ (eval (Expr.BoolOp BoolOp.Or _ _) _) _ _ _); k_dflt (refine' join_long ?hd ?w ?_; (case hd => assumption); (case w => (k_steps; all_goals first | exact long_end (long1 (by assumption)) | exact long_end (long2 (by assumption) (by assumption)) | exact long_end (long3 (by assumption)))); intro tk9; (try dsimp only); (try k_fold))))
local macro_rules | `(tactic| walk_at "compareOp NotEq ref ref") => `(tactic| (k_here; (with_reducible show wpAny _ _ (compareOp CmpOp.NotEq (Value.ref _) (Value.ref _)) _ _ _); (with_unfolding_all refine' ne_same ?k1 ?k2 ?k3 ?k4 ?k5 ?ke ?_; (case k1 => is_list); (case k2 => l_ints); (case k3 => is_list); (case k4 => l_ints); (case k5 => units_room); (case ke => rfl); k_whole)))
local macro_rules | `(tactic| walk_at "compareOp NotEq int int") => `(tactic| (k_here; k_dflt (refine' ne_int_same ?ke ?_; (case ke => with_reducible first | exact next_g _ | exact now_g | exact now_j | exact next_j' (by assumption)))))

local macro_rules | `(tactic| walk_at "exec For Name Call cons nil") => `(tactic| (k_here; (rename Fr _ _ _ _ => lF'); (with_unfolding_all refine' For_cell lF' ?kx ?_; (case kx => exact rfl); k_whole)))
local macro_rules | `(tactic| walk_at "pyIter ref") => `(tactic| ((with_reducible show wpAny _ _ (pyIter (Value.ref _)) (fun it s₂ => TurnsAt _ _ _ _ _ (Expr.Name _ _) _ _ _ it s₂) _ _); k_here; ((rename Fr _ _ _ _ => lF'); (rename News _ _ _ _ => lN'); k_dflt (refine' loop_yrs ?hh ?hr lF' lN' ?hm ?hlo ?hly ?h1 ?h2 ?h3 ?hi ?hoc ?_ ?_; (case hh => exact rfl); (case hr => assumption); (case hm => exact rfl); (case hlo => exact rfl); (case hly => exact rfl); (case h1 => k_mem); (case h2 => k_mem); (case h3 => k_mem); (case hi => assumption); (case hoc => assumption)))))
local macro_rules | `(tactic| walk_at "setItem ref int") => `(tactic| (k_here; (with_reducible show wpAny _ _ (setItem (Value.ref _) (Value.int _ _) (Value.int _ _)) _ _ _); k_dflt (refine' set_abs _ ?k1 ?k2 ?k3 ?k4 ?k5 ?k6 ?k7 ?_; (case k1 => k_asm); (case k2 => k_asm); (case k3 => (intro us; k_upd)); (case k4 => with_reducible assumption); (case k5 => ksa_idx); (case k6 => ksa_idx); (case k7 => ksa_idx); k_whole); intro h' us' ms' F' N' hi' hl' hs'; (try dsimp only at N'); (try k_sweep)))
set_option maxRecDepth 100000 in
set_option maxHeartbeats 8000000 in
theorem law_holds : PySem.Challenge.rw_bw0002_01.Holds := by
  k_with_none
  refine hd ?_
  k_go0
  all_goals try k_fold
  k_steps
  all_goals (refine' turn_end ?zF ?zm ?zN ?z1 ?z2 ?z3 ?z4 ?zi ?zq ?zo; (case zF => assumption); (case zm => exact rfl); (case zN => assumption); (case z1 => k_mem); (case z2 => k_mem); (case z3 => k_mem); (case z4 => k_mem); (case zi => assumption); (case zq => exact yr_chain (by assumption) (by assumption) (by assumption) (by assumption) (by assumption) (by assumption) (by assumption)); (case zo => assumption))
end Mine

theorem PySem.Challenge.cw_bw0002_01_holds : PySem.Challenge.rw_bw0002_01.Holds :=
  Mine.law_holds
