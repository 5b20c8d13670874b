/- The data of layer 28, and how they lie in memory. -/
import Derived.Test.YtfmpiabmnjmobaaTyM
import Derived.Test.YtfmpiabmnjmobaaStr
import Derived.Test.YtfmpiabmnjmobaaOpn2
namespace Go.Proofs.Ytfmpiabmnjmobaa
open Go.RowKit

abbrev intD (z : Int) : D := .raw (.int .i64 z)
structure Acc where
  o : List UInt8
  k : Int
  a : List UInt8
structure Rsc where
  k : Int
  acc : Acc
  f : List UInt8
  t : List UInt8
structure Post where
  acc : Acc
  d : Int
structure Pay where
  f : List UInt8
  t : List UInt8
  n : Int
structure Itm where
  id : Int
  pr : Int
  sq : Int
  po : List Post
  pa : List Pay
  af : List Int
structure Roo where
  r : Rsc
  n : Int
structure Prb where
  ro : List Roo
  it : List Itm
theorem Acc.eq_iff {x y : Acc} : x = y ↔ x.o = y.o ∧ x.k = y.k ∧ x.a = y.a := by cases x; cases y; simp
instance : DecidableEq Acc := fun _ _ => decidable_of_iff _ Acc.eq_iff.symm
theorem Rsc.eq_iff {x y : Rsc} : x = y ↔ x.k = y.k ∧ x.acc = y.acc ∧ x.f = y.f ∧ x.t = y.t := by cases x; cases y; simp
instance : DecidableEq Rsc := fun _ _ => decidable_of_iff _ Rsc.eq_iff.symm
abbrev accD (x : Acc) : D := .agg [strD x.o, intD x.k, strD x.a]
abbrev rscD (x : Rsc) : D := .agg [intD x.k, strD x.acc.o, intD x.acc.k, strD x.acc.a, strD x.f, strD x.t]
abbrev postD (x : Post) : D := .agg [strD x.acc.o, intD x.acc.k, strD x.acc.a, intD x.d]
abbrev payD (x : Pay) : D := .agg [strD x.f, strD x.t, intD x.n]
abbrev itmD (x : Itm) : D := .agg [intD x.id, intD x.pr, intD x.sq, .sl none (x.po.map postD), .sl none (x.pa.map payD), .sl none (x.af.map intD)]
abbrev rooD (x : Roo) : D := .agg [intD x.r.k, strD x.r.acc.o, intD x.r.acc.k, strD x.r.acc.a, strD x.r.f, strD x.r.t, intD x.n]
abbrev prbD (x : Prb) : D := .agg [.sl none (x.ro.map rooD), .sl none (x.it.map itmD)]

def rscC (x : Rsc) : List Value := [.int .i64 x.k, strV x.acc.o, .int .i64 x.acc.k, strV x.acc.a, strV x.f, strV x.t]
def accC (x : Acc) : List Value := [strV x.o, .int .i64 x.k, strV x.a]
abbrev rscT : List TypeDesc := [.int .i64, .string, .int .i64, .string, .string, .string]
abbrev accT : List TypeDesc := [.string, .int .i64, .string]
theorem eqCell_int (a b : Int) : eqCell (.int .i64 a) (.int .i64 b) = decide (a = b) := by
  simp only [eqCell]; exact Bool.beq_eq_decide_eq a b
theorem eqCell_str (a b : List UInt8) : eqCell (strV a) (strV b) = decide (a = b) := by
  simp only [eqCell, strV, ← beq_toListBytes, beq_bytes]
theorem rsc_eqC (a b : Rsc) : eqCells (rscC a) (rscC b) = decide (a = b) := by
  simp only [rscC, eqCells, eqCell_int, eqCell_str, Rsc.eq_iff, Acc.eq_iff, Bool.and_true, Bool.decide_and, Bool.and_assoc]
theorem acc_eqC (a b : Acc) : eqCells (accC a) (accC b) = decide (a = b) := by
  simp only [accC, eqCells, eqCell_int, eqCell_str, Acc.eq_iff, Bool.and_true, Bool.decide_and, Bool.and_assoc]
theorem plain_cons {d : TypeDesc} {ds : List TypeDesc} {u : Value} {us : List Value} (h : MapKept.IsKey d u) (hr : PlainAre ds us) : PlainAre (d :: ds) (u :: us) :=
  ⟨by simp [hr.1], fun i d' u' hd hu => by
    cases i with
    | zero => simp at hd hu; subst hd hu; exact h
    | succ i => exact hr.2 i d' u' (by simpa using hd) (by simpa using hu)⟩
theorem plain_nil : PlainAre [] [] := ⟨rfl, by simp⟩
theorem rsc_plain (a : Rsc) : PlainAre rscT (rscC a) := plain_cons rfl (plain_cons trivial (plain_cons rfl (plain_cons trivial (plain_cons trivial (plain_cons trivial plain_nil)))))
theorem acc_plain (a : Acc) : PlainAre accT (accC a) := plain_cons trivial (plain_cons rfl (plain_cons trivial plain_nil))
theorem rsc_val (a : Rsc) : (rscD a).val? = some (.agg (rscC a).toArray) := rfl
theorem kt43 : KeyTy Try.prog 43 rscD (fun a => .agg (rscC a).toArray) := KeyTy.flat (ds := rscT) (by kernel_rfl) (by kernel_rfl) rsc_val rsc_plain rsc_eqC
theorem c2_wr {fs : List (Nat × Option (List AObj))} {f : Nat} {c1 c2 : List AObj} (h : look fs f = some (some c2)) : ∀ g c, look fs g = some c → C2 f c1 c2 g c := fun g c hg e => by
  subst e; rw [h] at hg; injection hg with hg; exact .inr hg.symm
theorem retB {p q : Prop} [Decidable p] [Decidable q] (h : p ↔ q) : AV.d (.raw (.bool (decide p))) = .d (.raw (.bool (decide q))) := by rw [decide_eq_decide.2 h]
theorem retT {q : Prop} [Decidable q] (h : q) : AV.d (.raw (.bool true)) = .d (.raw (.bool (decide q))) := by rw [decide_eq_true h]
theorem retF {q : Prop} [Decidable q] (h : ¬ q) : AV.d (.raw (.bool false)) = .d (.raw (.bool (decide q))) := by rw [decide_eq_false h]
theorem retI {a b : Int} (h : a = b) : AV.d (.raw (.int .i64 a)) = .d (.raw (.int .i64 b)) := by rw [h]
theorem wrapS (n : Nat) (h : n ≤ 9223372036854775807) : IntKind.i64.wrap (n : Int) = (n : Int) := IntWalk.i64_in _ (by omega)
end Go.Proofs.Ytfmpiabmnjmobaa

/- Layer 28: the leaves. -/
namespace Go.Proofs.Ytfmpiabmnjmobaa
open Go.RowKit

theorem within_p (n lo hi : Int) : PCalls Try.prog 50 [.d (intD n), .d (intD lo), .d (intD hi)] (.raw (.bool (decide (lo ≤ n ∧ n ≤ hi)))) := by
  refine a_enter Try.func50 rfl rfl Try.ntmps50 rfl rfl rfl fun F hF => ?_
  refine a_seq ?_
  refine a_region ?_
  refine Pstep.go (st_assign rfl rfl) ?_
  refine o_nil ?_
  refine a_seq ?_
  refine a_region ?_
  refine Pstep.go (st_move rfl rfl) ?_
  refine Pstep.go (st_move rfl rfl) ?_
  refine Pstep.go (st_geq rfl rfl rfl) ?_
  refine Pstep.go (st_move rfl rfl) ?_
  refine o_splitP 10 rfl (fun h10 => ?_) (fun h10 => ?_)
  · refine o_run rfl rfl rfl ?_
    refine Pstep.go (st_move rfl rfl) ?_
    refine o_run rfl rfl rfl ?_
    refine Pstep.go (st_move rfl rfl) ?_
    refine o_run rfl rfl rfl ?_
    refine Pstep.go (st_leq rfl rfl rfl) ?_
    refine Pstep.go (st_pickT rfl rfl rfl rfl) ?_
    refine Pstep.go (st_assign rfl rfl) ?_
    refine o_nil ?_
    refine a_ret ?_
    exact ⟨_, [], [], res_of rfl, rfl, rfl, by first | exact retB (by omega) | exact retF (by omega), rfl⟩
  · refine o_pass rfl rfl rfl rfl ?_
    refine o_pass rfl rfl rfl rfl ?_
    refine o_pass rfl rfl rfl rfl ?_
    refine Pstep.go (st_pickF rfl rfl rfl rfl) ?_
    refine Pstep.go (st_assign rfl rfl) ?_
    refine o_nil ?_
    refine a_ret ?_
    exact ⟨_, [], [], res_of rfl, rfl, rfl, by first | exact retB (by omega) | exact retF (by omega), rfl⟩
theorem within64_p (n lo hi : Int) : PCalls Try.prog 79 [.d (intD n), .d (intD lo), .d (intD hi)] (.raw (.bool (decide (lo ≤ n ∧ n ≤ hi)))) := by
  refine a_enter Try.func79 rfl rfl Try.ntmps79 rfl rfl rfl fun F hF => ?_
  refine a_seq ?_
  refine a_region ?_
  refine Pstep.go (st_assign rfl rfl) ?_
  refine o_nil ?_
  refine a_seq ?_
  refine a_region ?_
  refine Pstep.go (st_move rfl rfl) ?_
  refine Pstep.go (st_move rfl rfl) ?_
  refine Pstep.go (st_geq rfl rfl rfl) ?_
  refine Pstep.go (st_move rfl rfl) ?_
  refine o_splitP 10 rfl (fun h10 => ?_) (fun h10 => ?_)
  · refine o_run rfl rfl rfl ?_
    refine Pstep.go (st_move rfl rfl) ?_
    refine o_run rfl rfl rfl ?_
    refine Pstep.go (st_move rfl rfl) ?_
    refine o_run rfl rfl rfl ?_
    refine Pstep.go (st_leq rfl rfl rfl) ?_
    refine Pstep.go (st_pickT rfl rfl rfl rfl) ?_
    refine Pstep.go (st_assign rfl rfl) ?_
    refine o_nil ?_
    refine a_ret ?_
    exact ⟨_, [], [], res_of rfl, rfl, rfl, by first | exact retB (by omega) | exact retF (by omega), rfl⟩
  · refine o_pass rfl rfl rfl rfl ?_
    refine o_pass rfl rfl rfl rfl ?_
    refine o_pass rfl rfl rfl rfl ?_
    refine Pstep.go (st_pickF rfl rfl rfl rfl) ?_
    refine Pstep.go (st_assign rfl rfl) ?_
    refine o_nil ?_
    refine a_ret ?_
    exact ⟨_, [], [], res_of rfl, rfl, rfl, by first | exact retB (by omega) | exact retF (by omega), rfl⟩
theorem refwithin_p (n : Int) : PCalls Try.prog 56 [.d (intD n)] (.raw (.bool (decide (0 ≤ n ∧ n ≤ 1000000000)))) := by
  refine a_enter Try.func56 rfl rfl Try.ntmps56 rfl rfl rfl fun F hF => ?_
  refine a_seq ?_
  refine a_region ?_
  refine Pstep.go (st_assign rfl rfl) ?_
  refine o_nil ?_
  refine a_seq ?_
  refine a_region ?_
  refine Pstep.go (st_move rfl rfl) ?_
  refine Pstep.go (st_geq rfl rfl rfl) ?_
  refine Pstep.go (st_move rfl rfl) ?_
  refine o_splitP 5 rfl (fun h5 => ?_) (fun h5 => ?_)
  · refine o_run rfl rfl rfl ?_
    refine Pstep.go (st_move rfl rfl) ?_
    refine o_run rfl rfl rfl ?_
    refine Pstep.go (st_leq rfl rfl rfl) ?_
    refine Pstep.go (st_pickT rfl rfl rfl rfl) ?_
    refine Pstep.go (st_assign rfl rfl) ?_
    refine o_nil ?_
    refine a_ret ?_
    exact ⟨_, [], [], res_of rfl, rfl, rfl, by first | exact retB (by omega) | exact retF (by omega), rfl⟩
  · refine o_pass rfl rfl rfl rfl ?_
    refine o_pass rfl rfl rfl rfl ?_
    refine Pstep.go (st_pickF rfl rfl rfl rfl) ?_
    refine Pstep.go (st_assign rfl rfl) ?_
    refine o_nil ?_
    refine a_ret ?_
    exact ⟨_, [], [], res_of rfl, rfl, rfl, by first | exact retB (by omega) | exact retF (by omega), rfl⟩
theorem nan_p (n : Int) : PCalls Try.prog 93 [.d (intD n)] (.raw (.bool false)) := by
  refine a_enter Try.func93 rfl rfl Try.ntmps93 rfl rfl rfl fun F hF => ?_
  refine a_seq ?_
  refine a_region ?_
  refine Pstep.go (st_assign rfl rfl) ?_
  refine o_nil ?_
  refine a_seq ?_
  refine a_region ?_
  refine Pstep.go (st_move rfl rfl) ?_
  refine Pstep.go (st_move rfl rfl) ?_
  refine Pstep.go (st_neq rfl rfl rfl) ?_
  refine Pstep.go (st_assign rfl rfl) ?_
  refine o_nil ?_
  refine a_ret ?_
  exact ⟨_, [], [], res_of rfl, rfl, rfl, by simp, rfl⟩
theorem nanS_p (l : List UInt8) : PCalls Try.prog 94 [.d (strD l)] (.raw (.bool false)) := by
  refine a_enter Try.func94 rfl rfl Try.ntmps94 rfl rfl rfl fun F hF => ?_
  refine a_seq ?_
  refine a_region ?_
  refine Pstep.go (st_assign rfl rfl) ?_
  refine o_nil ?_
  refine a_seq ?_
  refine a_region ?_
  refine Pstep.go (st_move rfl rfl) ?_
  refine Pstep.go (st_move rfl rfl) ?_
  refine Pstep.go (st_neqSL rfl rfl rfl) ?_
  refine Pstep.go (st_assign rfl rfl) ?_
  refine o_nil ?_
  refine a_ret ?_
  exact ⟨_, [], [], res_of rfl, rfl, rfl, by simp, rfl⟩
def cmpI (a b : Int) : Int := if a < b then -1 else if b < a then 1 else 0
/-- Strings in the order of their bytes. -/
def ltS (a b : List UInt8) : Bool := Op.bytesLess a b
def cmpS (a b : List UInt8) : Int := if ltS a b = true then -1 else if ltS b a = true then 1 else 0
theorem less_toList (a b : List UInt8) : Op.bytesLess (⟨a.toArray⟩ : ByteArray).toList (⟨b.toArray⟩ : ByteArray).toList = ltS a b := by rw [Lib.toList_data, Lib.toList_data]; rfl
theorem cmpI_p (a b : Int) : PCalls Try.prog 64 [.d (intD a), .d (intD b)] (intD (cmpI a b)) := by
  refine a_enter Try.func64 rfl rfl Try.ntmps64 rfl rfl rfl fun F hF => ?_
  refine a_seq ?_
  refine a_region ?_
  refine Pstep.go (st_assign rfl rfl) ?_
  refine o_nil ?_
  refine a_seq ?_
  refine a_region ?_
  refine Pstep.go (st_move rfl rfl) ?_
  refine Pstep.go (st_callP (nan_p a) rfl rfl) ?_
  refine Pstep.go (st_assign rfl rfl) ?_
  refine o_nil ?_
  refine a_seq ?_
  refine a_region ?_
  refine Pstep.go (st_move rfl rfl) ?_
  refine Pstep.go (st_callP (nan_p b) rfl rfl) ?_
  refine Pstep.go (st_assign rfl rfl) ?_
  refine o_nil ?_
  refine a_seq ?_
  refine a_seq ?_
  refine a_region ?_
  refine Pstep.go (st_move rfl rfl) ?_
  refine o_nil ?_
  refine a_false rfl (rfl) ?_
  refine a_skip ?_
  refine a_seq ?_
  refine a_seq ?_
  refine a_region ?_
  refine Pstep.go (st_move rfl rfl) ?_
  refine o_nil ?_
  refine a_false rfl (rfl) ?_
  refine a_skip ?_
  refine a_seq ?_
  refine a_seq ?_
  refine a_region ?_
  refine Pstep.go (st_move rfl rfl) ?_
  refine Pstep.go (st_move rfl rfl) ?_
  refine Pstep.go (st_lss rfl rfl rfl) ?_
  refine o_nil ?_
  refine a_if rfl (fun h16 => ?_) (fun h16 => ?_)
  · refine a_seq ?_
    refine a_region ?_
    refine Pstep.go (st_assign rfl rfl) ?_
    refine o_nil ?_
    refine a_ret ?_
    exact ⟨_, [], [], res_of rfl, rfl, rfl, by first | exact retI (by unfold cmpI; rw [if_pos (by assumption)]) | exact retI (by unfold cmpI; rw [if_neg (by assumption), if_pos (by omega)]) | exact retI (by unfold cmpI; rw [if_neg (by assumption), if_neg (by omega)]), rfl⟩
  · refine a_skip ?_
    refine a_seq ?_
    refine a_seq ?_
    refine a_region ?_
    refine Pstep.go (st_move rfl rfl) ?_
    refine Pstep.go (st_move rfl rfl) ?_
    refine Pstep.go (st_gtr rfl rfl rfl) ?_
    refine o_nil ?_
    refine a_if rfl (fun h19 => ?_) (fun h19 => ?_)
    · refine a_seq ?_
      refine a_region ?_
      refine Pstep.go (st_assign rfl rfl) ?_
      refine o_nil ?_
      refine a_ret ?_
      exact ⟨_, [], [], res_of rfl, rfl, rfl, by first | exact retI (by unfold cmpI; rw [if_pos (by assumption)]) | exact retI (by unfold cmpI; rw [if_neg (by assumption), if_pos (by omega)]) | exact retI (by unfold cmpI; rw [if_neg (by assumption), if_neg (by omega)]), rfl⟩
    · refine a_skip ?_
      refine a_seq ?_
      refine a_region ?_
      refine Pstep.go (st_assign rfl rfl) ?_
      refine o_nil ?_
      refine a_ret ?_
      exact ⟨_, [], [], res_of rfl, rfl, rfl, by first | exact retI (by unfold cmpI; rw [if_pos (by assumption)]) | exact retI (by unfold cmpI; rw [if_neg (by assumption), if_pos (by omega)]) | exact retI (by unfold cmpI; rw [if_neg (by assumption), if_neg (by omega)]), rfl⟩
theorem cmpS_p (a b : List UInt8) : PCalls Try.prog 65 [.d (strD a), .d (strD b)] (intD (cmpS a b)) := by
  refine a_enter Try.func65 rfl rfl Try.ntmps65 rfl rfl rfl fun F hF => ?_
  refine a_seq ?_
  refine a_region ?_
  refine Pstep.go (st_assign rfl rfl) ?_
  refine o_nil ?_
  refine a_seq ?_
  refine a_region ?_
  refine Pstep.go (st_move rfl rfl) ?_
  refine Pstep.go (st_callP (nanS_p a) rfl rfl) ?_
  refine Pstep.go (st_assign rfl rfl) ?_
  refine o_nil ?_
  refine a_seq ?_
  refine a_region ?_
  refine Pstep.go (st_move rfl rfl) ?_
  refine Pstep.go (st_callP (nanS_p b) rfl rfl) ?_
  refine Pstep.go (st_assign rfl rfl) ?_
  refine o_nil ?_
  refine a_seq ?_
  refine a_seq ?_
  refine a_region ?_
  refine Pstep.go (st_move rfl rfl) ?_
  refine o_nil ?_
  refine a_false rfl (rfl) ?_
  refine a_skip ?_
  refine a_seq ?_
  refine a_seq ?_
  refine a_region ?_
  refine Pstep.go (st_move rfl rfl) ?_
  refine o_nil ?_
  refine a_false rfl (rfl) ?_
  refine a_skip ?_
  refine a_seq ?_
  refine a_seq ?_
  refine a_region ?_
  refine Pstep.go (st_move rfl rfl) ?_
  refine Pstep.go (st_move rfl rfl) ?_
  refine Pstep.go (st_lssS rfl rfl rfl) ?_
  refine o_nil ?_
  refine a_cond rfl (fun h16 => ?_) (fun h16 => ?_)
  · rw [less_toList] at h16
    refine a_seq ?_
    refine a_region ?_
    refine Pstep.go (st_assign rfl rfl) ?_
    refine o_nil ?_
    refine a_ret ?_
    exact ⟨_, [], [], res_of rfl, rfl, rfl, by first | exact retI (by unfold cmpS; rw [if_pos h16]) | exact retI (by unfold cmpS; rw [if_neg (by rw [h16]; decide), if_pos h19]) | exact retI (by unfold cmpS; rw [if_neg (by rw [h16]; decide), if_neg (by rw [h19]; decide)]), rfl⟩
  · rw [less_toList] at h16
    refine a_skip ?_
    refine a_seq ?_
    refine a_seq ?_
    refine a_region ?_
    refine Pstep.go (st_move rfl rfl) ?_
    refine Pstep.go (st_move rfl rfl) ?_
    refine Pstep.go (st_gtrS rfl rfl rfl) ?_
    refine o_nil ?_
    refine a_cond rfl (fun h19 => ?_) (fun h19 => ?_)
    · rw [less_toList] at h19
      refine a_seq ?_
      refine a_region ?_
      refine Pstep.go (st_assign rfl rfl) ?_
      refine o_nil ?_
      refine a_ret ?_
      exact ⟨_, [], [], res_of rfl, rfl, rfl, by first | exact retI (by unfold cmpS; rw [if_pos h16]) | exact retI (by unfold cmpS; rw [if_neg (by rw [h16]; decide), if_pos h19]) | exact retI (by unfold cmpS; rw [if_neg (by rw [h16]; decide), if_neg (by rw [h19]; decide)]), rfl⟩
    · rw [less_toList] at h19
      refine a_skip ?_
      refine a_seq ?_
      refine a_region ?_
      refine Pstep.go (st_assign rfl rfl) ?_
      refine o_nil ?_
      refine a_ret ?_
      exact ⟨_, [], [], res_of rfl, rfl, rfl, by first | exact retI (by unfold cmpS; rw [if_pos h16]) | exact retI (by unfold cmpS; rw [if_neg (by rw [h16]; decide), if_pos h19]) | exact retI (by unfold cmpS; rw [if_neg (by rw [h16]; decide), if_neg (by rw [h19]; decide)]), rfl⟩
end Go.Proofs.Ytfmpiabmnjmobaa

/- Layer 28, plain: what an item's check says. No program in sight. -/
namespace Go.Proofs.Ytfmpiabmnjmobaa
open Go.RowKit

abbrev Mx : Int := 1000000000000000
def fst0 : List Int → Int
  | [] => 0
  | e :: r => if e = 0 then fst0 r else e
theorem fst0_drop {α : Type} {l : List α} {f : α → Int} {k : Nat} (hk : k < l.length) : fst0 ((l.drop k).map f) = if f l[k] = 0 then fst0 ((l.drop (k + 1)).map f) else f l[k] := by
  rw [List.drop_eq_getElem_cons hk]; rfl
theorem fst0_end {α : Type} {l : List α} {f : α → Int} {k : Nat} (hk : ¬ k < l.length) : fst0 ((l.drop k).map f) = 0 := by
  rw [List.drop_of_length_le (by omega)]; rfl
theorem fst0_cases {α : Type} {l : List α} {f : α → Int} {k : Nat} {E : Int} (hk : k < l.length) (h : E = fst0 ((l.drop k).map f)) : (f l[k] = 0 → E = fst0 ((l.drop (k + 1)).map f)) ∧ ∀ e, f l[k] = e → e ≠ 0 → e = E := by
  rw [fst0_drop hk] at h
  exact ⟨fun h0 => by rw [h, if_pos h0], fun e h1 h2 => by rw [h, if_neg (by rw [h1]; exact h2), h1]⟩
def pErr (p : Post) : Int := if p.acc.o = [] ∨ p.acc.a = [] then 6 else if ¬ (0 ≤ p.acc.k ∧ p.acc.k ≤ 4) then 11 else if ¬ (-Mx ≤ p.d ∧ p.d ≤ Mx) then 12 else 0
def yErr (p : Pay) : Int := if p.f = [] ∨ p.t = [] then 6 else if p.f = p.t then 7 else if ¬ (0 ≤ p.n ∧ p.n ≤ Mx) then 2 else 0
def aErr (id : Int) (l : List Int) (k : Nat) : Int := if ¬ (0 ≤ l.getD k 0 ∧ l.getD k 0 ≤ 1000000000) then 2 else if l.getD k 0 = id ∨ l.getD k 0 ∈ l.take k then 7 else 0
def postE (i : Itm) : Int := fst0 (i.po.map pErr)
def payE (i : Itm) : Int := fst0 (i.pa.map yErr)
def aftE (i : Itm) : Int := fst0 ((List.range i.af.length).map (aErr i.id i.af))
/-- The sum of the deltas of an asset. -/
def assetSum (l : List Post) (a : List UInt8) : Int := (l.map fun p => if p.acc.a = a then p.d else 0).sum
def balE (i : Itm) : Int := if ∃ p ∈ i.po, assetSum i.po p.acc.a ≠ 0 then 14 else 0
end Go.Proofs.Ytfmpiabmnjmobaa

/- Layer 28: searching lists of numbers; the checks of an item's parts. -/
namespace Go.Proofs.Ytfmpiabmnjmobaa
open Go.RowKit

theorem not_mem_take_succ {α : Type} {l : List α} {x : α} {k : Nat} (hk : k < l.length) (h : x ∉ l.take k) (hne : x ≠ l[k]) : x ∉ l.take (k + 1) := by
  rw [List.take_succ_eq_append_getElem hk, List.mem_append]
  simp [h, hne]
theorem mem_of_take {α : Type} {l : List α} {x : α} {k : Nat} (hk : ¬ k < l.length) (h : x ∉ l.take k) : x ∉ l := by
  rwa [List.take_of_length_le (by omega)] at h
def ixI (x : Int) (l : List Int) : Int := if x ∈ l then (l.idxOf x : Int) else -1
theorem idxOf_at {l : List Int} {x : Int} {k : Nat} (hk : k < l.length) (h : x ∉ l.take k) (he : x = l[k]) : ixI x l = (k : Int) := by
  unfold ixI
  rw [if_pos (by rw [he]; exact List.getElem_mem hk)]
  have h1 : l = l.take k ++ l[k] :: l.drop (k + 1) := by rw [← List.drop_eq_getElem_cons hk, List.take_append_drop]
  rw [h1, List.idxOf_append, if_neg h, he, List.idxOf_cons_self]
  simp; omega
theorem index_p (l : List Int) (x : Int) (hn : l.length ≤ 140737488355328) : PCalls Try.prog 102 [.d (.sl none (l.map intD)), .d (intD x)] (intD (ixI x l)) := by
  refine a_enter Try.func102 rfl rfl Try.ntmps102 rfl rfl rfl fun F hF => ?_
  refine a_seq ?_
  refine a_region ?_
  refine Pstep.go (st_assign rfl rfl) ?_
  refine o_nil ?_
  refine a_seq ?_
  refine a_seq ?_
  refine a_region ?_
  refine Pstep.go (st_move rfl rfl) ?_
  refine Pstep.go (st_lenMap rfl Try.underlying24 rfl) ?_
  refine Pstep.go (st_move rfl rfl) ?_
  refine o_nil ?_
  refine a_block ?_
  refine a_loop (α := Nat) (fun k => ⟨19, [(0, .d (.sl none (l.map intD))), (1, .d (intD x)), (7, (.d (intD (l.length : Int)))), (8, (.d (intD (k : Int))))], []⟩) (fun k => k ≤ l.length ∧ x ∉ l.take k) (fun k => l.length - k) (0) (⟨Nat.zero_le _, by simp⟩) (le_of_has ⟨rfl, rfl, rfl, rfl, trivial⟩) ?_
  rintro k ⟨hk0, hk⟩
  refine a_seq ?_
  refine a_region ?_
  refine Pstep.go (st_lss rfl rfl rfl) ?_
  refine o_nil ?_
  refine a_seq ?_
  refine a_if rfl (fun h9 => ?_) (fun h9 => ?_)
  · have hk1 : k < l.length := lt_cast h9
    refine a_skip ?_
    refine a_seq ?_
    refine a_block ?_
    refine a_seq ?_
    refine a_region ?_
    refine Pstep.go (st_move rfl rfl) ?_
    refine Pstep.go (st_assign rfl rfl) ?_
    refine o_nil ?_
    refine a_seq ?_
    refine a_region ?_
    refine Pstep.go (st_move rfl rfl) ?_
    refine Pstep.go (st_move rfl rfl) ?_
    refine Pstep.go (st_move rfl rfl) ?_
    refine Pstep.go (st_indexD (k) rfl rfl (rfl) (getm hk1) Try.underlying24 rfl sz3 rfl) ?_
    refine Pstep.go (st_loadD1 rfl rfl on3 rfl) ?_
    refine Pstep.go (st_eql rfl rfl rfl) ?_
    refine o_nil ?_
    refine a_if rfl (fun h16 => ?_) (fun h16 => ?_)
    · refine a_seq ?_
      refine a_region ?_
      refine Pstep.go (st_move rfl rfl) ?_
      refine Pstep.go (st_assign rfl rfl) ?_
      refine o_nil ?_
      refine a_ret ?_
      exact ⟨_, [], [], res_of rfl, rfl, rfl, retI (idxOf_at hk1 hk h16).symm, rfl⟩
    · refine a_skip ?_
      refine a_region ?_
      refine Pstep.go (st_add rfl rfl (wrapS (k + 1) (by omega)) rfl) ?_
      refine Pstep.go (st_move rfl rfl) ?_
      refine o_nil ?_
      exact ⟨k + 1, ⟨by show k + 1 ≤ _; omega, not_mem_take_succ hk1 hk h16⟩, by show l.length - (k + 1) < l.length - k; omega, ⟨rfl, rfl, fun _ _ => Has.get (l := [(0, _), (1, _), (7, _), (8, _)]) ⟨rfl, rfl, rfl, rfl, trivial⟩⟩⟩
  · refine a_exit ?_
    refine a_seq ?_
    refine a_region ?_
    refine Pstep.go (st_assign rfl rfl) ?_
    refine o_nil ?_
    refine a_ret ?_
    exact ⟨_, [], [], res_of rfl, rfl, rfl, retI (by unfold ixI; rw [if_neg (mem_of_take (by have h := h9; omega) hk)]), rfl⟩
theorem contains_p (l : List Int) (x : Int) (hn : l.length ≤ 140737488355328) : PCalls Try.prog 80 [.d (.sl none (l.map intD)), .d (intD x)] (.raw (.bool (decide (x ∈ l)))) := by
  refine a_enter Try.func80 rfl rfl Try.ntmps80 rfl rfl rfl fun F hF => ?_
  refine a_seq ?_
  refine a_region ?_
  refine Pstep.go (st_assign rfl rfl) ?_
  refine o_nil ?_
  refine a_seq ?_
  refine a_region ?_
  refine Pstep.go (st_move rfl rfl) ?_
  refine Pstep.go (st_move rfl rfl) ?_
  refine Pstep.go (st_callP (index_p l x hn) rfl rfl) ?_
  refine Pstep.go (st_geq rfl rfl rfl) ?_
  refine Pstep.go (st_assign rfl rfl) ?_
  refine o_nil ?_
  refine a_ret ?_
  exact ⟨_, [], [], res_of rfl, rfl, rfl, retB (by unfold ixI; split <;> rename_i h <;> simp [h] <;> omega), rfl⟩
theorem has_p (l : List Int) (x : Int) (hn : l.length ≤ 140737488355328) : PCalls Try.prog 89 [.d (.sl none (l.map intD)), .d (intD x)] (.raw (.bool (decide (x ∈ l)))) := by
  refine a_enter Try.func89 rfl rfl Try.ntmps89 rfl rfl rfl fun F hF => ?_
  refine a_seq ?_
  refine a_region ?_
  refine Pstep.go (st_assign rfl rfl) ?_
  refine o_nil ?_
  refine a_seq ?_
  refine a_seq ?_
  refine a_region ?_
  refine Pstep.go (st_assign rfl rfl) ?_
  refine o_nil ?_
  refine a_block ?_
  refine a_loop (α := Nat) (fun k => ⟨18, [(0, .d (.sl none (l.map intD))), (1, .d (intD x)), (5, (.d (intD (k : Int))))], []⟩) (fun k => k ≤ l.length ∧ x ∉ l.take k) (fun k => l.length - k) (0) (⟨Nat.zero_le _, by simp⟩) (le_of_has ⟨rfl, rfl, rfl, trivial⟩) ?_
  rintro k ⟨hk0, hk⟩
  refine a_seq ?_
  refine a_seq ?_
  refine a_region ?_
  refine Pstep.go (st_move rfl rfl) ?_
  refine Pstep.go (st_move rfl rfl) ?_
  refine Pstep.go (st_lenMap rfl Try.underlying24 rfl) ?_
  refine Pstep.go (st_lss rfl rfl rfl) ?_
  refine o_nil ?_
  refine a_if rfl (fun h9 => ?_) (fun h9 => ?_)
  · have hk1 : k < l.length := lt_cast h9
    refine a_skip ?_
    refine a_seq ?_
    refine a_block ?_
    refine a_seq ?_
    refine a_region ?_
    refine Pstep.go (st_move rfl rfl) ?_
    refine Pstep.go (st_move rfl rfl) ?_
    refine Pstep.go (st_indexD (k) rfl rfl (rfl) (getm hk1) Try.underlying24 rfl sz3 rfl) ?_
    refine Pstep.go (st_loadD1 rfl rfl on3 rfl) ?_
    refine Pstep.go (st_move rfl rfl) ?_
    refine Pstep.go (st_eql rfl rfl rfl) ?_
    refine o_nil ?_
    refine a_if rfl (fun h17 => ?_) (fun h17 => ?_)
    · refine a_seq ?_
      refine a_region ?_
      refine Pstep.go (st_assign rfl rfl) ?_
      refine o_nil ?_
      refine a_ret ?_
      exact ⟨_, [], [], res_of rfl, rfl, rfl, retT (by rw [← h17]; exact List.getElem_mem hk1), rfl⟩
    · refine a_skip ?_
      refine a_region ?_
      refine Pstep.go (st_move rfl rfl) ?_
      refine Pstep.go (st_add rfl rfl (wrapS (k + 1) (by omega)) rfl) ?_
      refine Pstep.go (st_assign rfl rfl) ?_
      refine o_nil ?_
      exact ⟨k + 1, ⟨by show k + 1 ≤ _; omega, not_mem_take_succ hk1 hk (fun e => h17 e.symm)⟩, by show l.length - (k + 1) < l.length - k; omega, ⟨rfl, rfl, fun _ _ => Has.get (l := [(0, _), (1, _), (5, _)]) ⟨rfl, rfl, rfl, trivial⟩⟩⟩
  · refine a_exit ?_
    refine a_seq ?_
    refine a_region ?_
    refine Pstep.go (st_assign rfl rfl) ?_
    refine o_nil ?_
    refine a_ret ?_
    exact ⟨_, [], [], res_of rfl, rfl, rfl, retF (mem_of_take (by have h := h9; omega) hk), rfl⟩
set_option maxRecDepth 100000 in
theorem postings_p (i : Itm) (hn : i.po.length ≤ 140737488355328) : PCalls Try.prog 51 [.d (itmD i)] (intD (postE i)) := by
  refine a_enter Try.func51 rfl rfl Try.ntmps51 rfl rfl rfl fun F hF => ?_
  refine a_seq ?_
  refine a_region ?_
  refine Estep.go (st_box 1 rfl rfl rfl rfl rfl rfl rfl) ?_
  refine Pstep.go (st_assign rfl rfl) ?_
  refine o_nil ?_
  refine a_seq ?_
  refine a_seq ?_
  refine a_region ?_
  refine Pstep.go (st_fieldP rfl fi33_3 rfl rfl rfl) ?_
  refine Pstep.go (st_loadP rfl rfl rfl on30 rfl) ?_
  refine Pstep.go (st_lenMap rfl Try.underlying30 rfl) ?_
  refine Pstep.go (st_move rfl rfl) ?_
  refine o_nil ?_
  refine a_block ?_
  refine a_loopP (α := Nat) (fun k => ⟨35, [(1, (.ptr 1 0 0)), (6, (.d (.sl none (i.po.map postD)))), (7, (.d (intD (i.po.length : Int)))), (8, (.d (intD (k : Int))))], [(1, [.blk 33 [.d (intD i.id), .d (intD i.pr), .d (intD i.sq), .d (.sl none (i.po.map postD)), .d (.sl none (i.pa.map payD)), .d (.sl none (i.af.map intD))]])]⟩) (fun k => k ≤ i.po.length ∧ postE i = fst0 ((i.po.drop k).map pErr)) (fun k => i.po.length - k) (0) (⟨Nat.zero_le _, rfl⟩) (lep_of hF [1] rfl rfl ⟨rfl, rfl, rfl, rfl, trivial⟩) ?_
  rintro k ⟨hk0, hk⟩
  refine a_seq ?_
  refine a_region ?_
  refine Pstep.go (st_lss rfl rfl rfl) ?_
  refine o_nil ?_
  refine a_seq ?_
  refine a_if rfl (fun h9 => ?_) (fun h9 => ?_)
  · have hk1 : k < i.po.length := lt_cast h9
    refine a_skip ?_
    refine a_seq ?_
    refine a_block ?_
    refine a_seq ?_
    refine a_region ?_
    have hE := fst0_cases hk1 hk
    refine Pstep.go (st_indexD (k) rfl rfl (rfl) (getm hk1) Try.underlying30 rfl sz106 rfl) ?_
    refine Pstep.go (st_loadDS rfl rfl rw106 rfl) ?_
    refine Estep.go (st_alloc 2 zl106 rfl rfl rfl rfl) ?_
    refine Estep.go (st_storeP rfl rfl rfl rfl rfl rfl rfl sz106) ?_
    refine o_nil ?_
    refine a_block ?_
    refine a_seq ?_
    refine a_region ?_
    refine Pstep.go (st_fieldP rfl fi106_0 rfl rfl rfl) ?_
    refine Pstep.go (st_fieldP rfl fi41_0 rfl rfl rfl) ?_
    refine Pstep.go (st_loadP rfl rfl rfl on9 rfl) ?_
    refine Pstep.go (st_eqlSL rfl rfl rfl) ?_
    refine Pstep.go (st_move rfl rfl) ?_
    refine o_splitP 17 rfl (fun h17 => ?_) (fun h17 => ?_)
    · refine o_pass rfl rfl rfl rfl ?_
      refine o_pass rfl rfl rfl rfl ?_
      refine o_pass rfl rfl rfl rfl ?_
      refine o_pass rfl rfl rfl rfl ?_
      refine Pstep.go (st_pickT rfl rfl rfl rfl) ?_
      refine Pstep.go (st_assign rfl rfl) ?_
      refine o_nil ?_
      refine a_true rfl rfl ?_
      refine a_seq ?_
      refine a_region ?_
      refine Pstep.go (st_assign rfl rfl) ?_
      refine o_nil ?_
      refine a_ret ?_
      exact ⟨_, [], [], res_of rfl, rfl, rfl, retI (hE.2 6 (by unfold pErr; rw [if_pos (.inl h17)]) (by decide)), rfl⟩
    · refine o_run rfl rfl rfl ?_
      refine Pstep.go (st_fieldP rfl fi106_0 rfl rfl rfl) ?_
      refine o_run rfl rfl rfl ?_
      refine Pstep.go (st_fieldP rfl fi41_2 rfl rfl rfl) ?_
      refine o_run rfl rfl rfl ?_
      refine Pstep.go (st_loadP rfl rfl rfl on9 rfl) ?_
      refine o_run rfl rfl rfl ?_
      refine Pstep.go (st_eqlSL rfl rfl rfl) ?_
      refine Pstep.go (st_pickF rfl rfl rfl rfl) ?_
      refine Pstep.go (st_assign rfl rfl) ?_
      refine o_nil ?_
      refine a_if rfl (fun h12 => ?_) (fun h12 => ?_)
      · refine a_seq ?_
        refine a_region ?_
        refine Pstep.go (st_assign rfl rfl) ?_
        refine o_nil ?_
        refine a_ret ?_
        exact ⟨_, [], [], res_of rfl, rfl, rfl, retI (hE.2 6 (by unfold pErr; rw [if_pos (.inr h12)]) (by decide)), rfl⟩
      · refine a_seq ?_
        refine a_region ?_
        refine Pstep.go (st_fieldP rfl fi106_0 rfl rfl rfl) ?_
        refine Pstep.go (st_fieldP rfl fi41_1 rfl rfl rfl) ?_
        refine Pstep.go (st_loadP rfl rfl rfl on3 rfl) ?_
        refine Pstep.go (st_callP (within_p _ _ _) rfl rfl) ?_
        refine Pstep.go (st_notP rfl rfl) ?_
        refine Pstep.go (st_assign rfl rfl) ?_
        refine o_nil ?_
        refine a_if rfl (fun h23 => ?_) (fun h23 => ?_)
        · refine a_seq ?_
          refine a_region ?_
          refine Pstep.go (st_assign rfl rfl) ?_
          refine o_nil ?_
          refine a_ret ?_
          exact ⟨_, [], [], res_of rfl, rfl, rfl, retI (hE.2 11 (by unfold pErr; rw [if_neg (by simp [h17, h12]), if_pos h23]) (by decide)), rfl⟩
        · refine a_seq ?_
          refine a_region ?_
          refine Pstep.go (st_fieldP rfl fi106_1 rfl rfl rfl) ?_
          refine Pstep.go (st_loadP rfl rfl rfl on2 rfl) ?_
          refine Pstep.go (st_callP (within64_p _ _ _) rfl rfl) ?_
          refine Pstep.go (st_notP rfl rfl) ?_
          refine Pstep.go (st_assign rfl rfl) ?_
          refine o_nil ?_
          refine a_if rfl (fun h29 => ?_) (fun h29 => ?_)
          · refine a_seq ?_
            refine a_region ?_
            refine Pstep.go (st_assign rfl rfl) ?_
            refine o_nil ?_
            refine a_ret ?_
            exact ⟨_, [], [], res_of rfl, rfl, rfl, retI (hE.2 12 (by unfold pErr; rw [if_neg (by simp [h17, h12]), if_neg h23, if_pos h29]) (by decide)), rfl⟩
          · refine a_skip ?_
            refine a_region ?_
            refine Pstep.go (st_add rfl rfl (wrapS (k + 1) (by omega)) rfl) ?_
            refine Pstep.go (st_move rfl rfl) ?_
            refine o_nil ?_
            exact ⟨k + 1, ⟨by show k + 1 ≤ _; omega, hE.1 (by unfold pErr; rw [if_neg (by simp [h17, h12]), if_neg h23, if_neg h29])⟩, by show i.po.length - (k + 1) < i.po.length - k; omega, lep_of hF [1] rfl (rfl) ⟨rfl, rfl, rfl, rfl, trivial⟩⟩
  · refine a_exit ?_
    refine a_seq ?_
    refine a_region ?_
    refine Pstep.go (st_assign rfl rfl) ?_
    refine o_nil ?_
    refine a_ret ?_
    exact ⟨_, [], [], res_of rfl, rfl, rfl, retI (by rw [hk, fst0_end (by have h := h9; omega)]), rfl⟩
set_option maxRecDepth 100000 in
theorem payments_p (i : Itm) (hn : i.pa.length ≤ 140737488355328) : PCalls Try.prog 52 [.d (itmD i)] (intD (payE i)) := by
  refine a_enter Try.func52 rfl rfl Try.ntmps52 rfl rfl rfl fun F hF => ?_
  refine a_seq ?_
  refine a_region ?_
  refine Estep.go (st_box 1 rfl rfl rfl rfl rfl rfl rfl) ?_
  refine Pstep.go (st_assign rfl rfl) ?_
  refine o_nil ?_
  refine a_seq ?_
  refine a_seq ?_
  refine a_region ?_
  refine Pstep.go (st_fieldP rfl fi33_4 rfl rfl rfl) ?_
  refine Pstep.go (st_loadP rfl rfl rfl on31 rfl) ?_
  refine Pstep.go (st_lenMap rfl Try.underlying31 rfl) ?_
  refine Pstep.go (st_move rfl rfl) ?_
  refine o_nil ?_
  refine a_block ?_
  refine a_loopP (α := Nat) (fun k => ⟨33, [(1, (.ptr 1 0 0)), (6, (.d (.sl none (i.pa.map payD)))), (7, (.d (intD (i.pa.length : Int)))), (8, (.d (intD (k : Int))))], [(1, [.blk 33 [.d (intD i.id), .d (intD i.pr), .d (intD i.sq), .d (.sl none (i.po.map postD)), .d (.sl none (i.pa.map payD)), .d (.sl none (i.af.map intD))]])]⟩) (fun k => k ≤ i.pa.length ∧ payE i = fst0 ((i.pa.drop k).map yErr)) (fun k => i.pa.length - k) (0) (⟨Nat.zero_le _, rfl⟩) (lep_of hF [1] rfl rfl ⟨rfl, rfl, rfl, rfl, trivial⟩) ?_
  rintro k ⟨hk0, hk⟩
  refine a_seq ?_
  refine a_region ?_
  refine Pstep.go (st_lss rfl rfl rfl) ?_
  refine o_nil ?_
  refine a_seq ?_
  refine a_if rfl (fun h9 => ?_) (fun h9 => ?_)
  · have hk1 : k < i.pa.length := lt_cast h9
    refine a_skip ?_
    refine a_seq ?_
    refine a_block ?_
    refine a_seq ?_
    refine a_region ?_
    have hE := fst0_cases hk1 hk
    refine Pstep.go (st_indexD (k) rfl rfl (rfl) (getm hk1) Try.underlying31 rfl sz108 rfl) ?_
    refine Pstep.go (st_loadDS rfl rfl rw108 rfl) ?_
    refine Estep.go (st_alloc 2 zl108 rfl rfl rfl rfl) ?_
    refine Estep.go (st_storeP rfl rfl rfl rfl rfl rfl rfl sz108) ?_
    refine o_nil ?_
    refine a_block ?_
    refine a_seq ?_
    refine a_region ?_
    refine Pstep.go (st_fieldP rfl fi108_0 rfl rfl rfl) ?_
    refine Pstep.go (st_loadP rfl rfl rfl on9 rfl) ?_
    refine Pstep.go (st_eqlSL rfl rfl rfl) ?_
    refine Pstep.go (st_move rfl rfl) ?_
    refine o_splitP 16 rfl (fun h16 => ?_) (fun h16 => ?_)
    · refine o_pass rfl rfl rfl rfl ?_
      refine o_pass rfl rfl rfl rfl ?_
      refine o_pass rfl rfl rfl rfl ?_
      refine Pstep.go (st_pickT rfl rfl rfl rfl) ?_
      refine Pstep.go (st_assign rfl rfl) ?_
      refine o_nil ?_
      refine a_true rfl rfl ?_
      refine a_seq ?_
      refine a_region ?_
      refine Pstep.go (st_assign rfl rfl) ?_
      refine o_nil ?_
      refine a_ret ?_
      exact ⟨_, [], [], res_of rfl, rfl, rfl, retI (hE.2 6 (by unfold yErr; rw [if_pos (.inl h16)]) (by decide)), rfl⟩
    · refine o_run rfl rfl rfl ?_
      refine Pstep.go (st_fieldP rfl fi108_1 rfl rfl rfl) ?_
      refine o_run rfl rfl rfl ?_
      refine Pstep.go (st_loadP rfl rfl rfl on9 rfl) ?_
      refine o_run rfl rfl rfl ?_
      refine Pstep.go (st_eqlSL rfl rfl rfl) ?_
      refine Pstep.go (st_pickF rfl rfl rfl rfl) ?_
      refine Pstep.go (st_assign rfl rfl) ?_
      refine o_nil ?_
      refine a_if rfl (fun h12 => ?_) (fun h12 => ?_)
      · refine a_seq ?_
        refine a_region ?_
        refine Pstep.go (st_assign rfl rfl) ?_
        refine o_nil ?_
        refine a_ret ?_
        exact ⟨_, [], [], res_of rfl, rfl, rfl, retI (hE.2 6 (by unfold yErr; rw [if_pos (.inr h12)]) (by decide)), rfl⟩
      · refine a_seq ?_
        refine a_region ?_
        refine Pstep.go (st_fieldP rfl fi108_0 rfl rfl rfl) ?_
        refine Pstep.go (st_loadP rfl rfl rfl on9 rfl) ?_
        refine Pstep.go (st_fieldP rfl fi108_1 rfl rfl rfl) ?_
        refine Pstep.go (st_loadP rfl rfl rfl on9 rfl) ?_
        refine Pstep.go (st_eqlSL rfl rfl rfl) ?_
        refine Pstep.go (st_assign rfl rfl) ?_
        refine o_nil ?_
        refine a_if rfl (fun h21 => ?_) (fun h21 => ?_)
        · refine a_seq ?_
          refine a_region ?_
          refine Pstep.go (st_assign rfl rfl) ?_
          refine o_nil ?_
          refine a_ret ?_
          exact ⟨_, [], [], res_of rfl, rfl, rfl, retI (hE.2 7 (by unfold yErr; rw [if_neg (by simp [h16, h12]), if_pos h21]) (by decide)), rfl⟩
        · refine a_seq ?_
          refine a_region ?_
          refine Pstep.go (st_fieldP rfl fi108_2 rfl rfl rfl) ?_
          refine Pstep.go (st_loadP rfl rfl rfl on2 rfl) ?_
          refine Pstep.go (st_callP (within64_p _ _ _) rfl rfl) ?_
          refine Pstep.go (st_notP rfl rfl) ?_
          refine Pstep.go (st_assign rfl rfl) ?_
          refine o_nil ?_
          refine a_if rfl (fun h27 => ?_) (fun h27 => ?_)
          · refine a_seq ?_
            refine a_region ?_
            refine Pstep.go (st_assign rfl rfl) ?_
            refine o_nil ?_
            refine a_ret ?_
            exact ⟨_, [], [], res_of rfl, rfl, rfl, retI (hE.2 2 (by unfold yErr; rw [if_neg (by simp [h16, h12]), if_neg h21, if_pos h27]) (by decide)), rfl⟩
          · refine a_skip ?_
            refine a_region ?_
            refine Pstep.go (st_add rfl rfl (wrapS (k + 1) (by omega)) rfl) ?_
            refine Pstep.go (st_move rfl rfl) ?_
            refine o_nil ?_
            exact ⟨k + 1, ⟨by show k + 1 ≤ _; omega, hE.1 (by unfold yErr; rw [if_neg (by simp [h16, h12]), if_neg h21, if_neg h27])⟩, by show i.pa.length - (k + 1) < i.pa.length - k; omega, lep_of hF [1] rfl (rfl) ⟨rfl, rfl, rfl, rfl, trivial⟩⟩
  · refine a_exit ?_
    refine a_seq ?_
    refine a_region ?_
    refine Pstep.go (st_assign rfl rfl) ?_
    refine o_nil ?_
    refine a_ret ?_
    exact ⟨_, [], [], res_of rfl, rfl, rfl, retI (by rw [hk, fst0_end (by have h := h9; omega)]), rfl⟩
theorem range_cases {n k : Nat} {f : Nat → Int} {E : Int} (hk : k < n) (h : E = fst0 (((List.range n).drop k).map f)) : (f k = 0 → E = fst0 (((List.range n).drop (k + 1)).map f)) ∧ ∀ e, f k = e → e ≠ 0 → e = E := by
  have := fst0_cases (l := List.range n) (k := k) (by simpa using hk) h
  simpa using this
set_option maxRecDepth 100000 in
theorem after_p (i : Itm) (hn : i.af.length ≤ 140737488355328) : PCalls Try.prog 53 [.d (itmD i)] (intD (aftE i)) := by
  refine a_enter Try.func53 rfl rfl Try.ntmps53 rfl rfl rfl fun F hF => ?_
  refine a_seq ?_
  refine a_region ?_
  refine Estep.go (st_box 1 rfl rfl rfl rfl rfl rfl rfl) ?_
  refine Pstep.go (st_assign rfl rfl) ?_
  refine o_nil ?_
  refine a_seq ?_
  refine a_seq ?_
  refine a_region ?_
  refine Pstep.go (st_fieldP rfl fi33_5 rfl rfl rfl) ?_
  refine Pstep.go (st_loadP rfl rfl rfl on24 rfl) ?_
  refine Pstep.go (st_lenMap rfl Try.underlying24 rfl) ?_
  refine Pstep.go (st_move rfl rfl) ?_
  refine o_nil ?_
  refine a_block ?_
  refine a_loopP (α := Nat) (fun k => ⟨31, [(1, (.ptr 1 0 0)), (6, (.d (.sl none (i.af.map intD)))), (7, (.d (intD (i.af.length : Int)))), (8, (.d (intD (k : Int))))], [(1, [.blk 33 [.d (intD i.id), .d (intD i.pr), .d (intD i.sq), .d (.sl none (i.po.map postD)), .d (.sl none (i.pa.map payD)), .d (.sl none (i.af.map intD))]])]⟩) (fun k => k ≤ i.af.length ∧ aftE i = fst0 (((List.range i.af.length).drop k).map (aErr i.id i.af))) (fun k => i.af.length - k) (0) (⟨Nat.zero_le _, rfl⟩) (lep_of hF [1] rfl rfl ⟨rfl, rfl, rfl, rfl, trivial⟩) ?_
  rintro k ⟨hk0, hk⟩
  refine a_seq ?_
  refine a_region ?_
  refine Pstep.go (st_lss rfl rfl rfl) ?_
  refine o_nil ?_
  refine a_seq ?_
  refine a_if rfl (fun h9 => ?_) (fun h9 => ?_)
  · have hk1 : k < i.af.length := lt_cast h9
    refine a_skip ?_
    refine a_seq ?_
    refine a_block ?_
    refine a_seq ?_
    refine a_region ?_
    have hE := range_cases hk1 hk
    have hg : i.af.getD k 0 = i.af[k] := by simp [hk1]
    refine Pstep.go (st_move rfl rfl) ?_
    refine Pstep.go (st_indexD (k) rfl rfl (rfl) (getm hk1) Try.underlying24 rfl sz3 rfl) ?_
    refine Pstep.go (st_loadD1 rfl rfl on3 rfl) ?_
    refine Pstep.go (st_assign rfl rfl) ?_
    refine Pstep.go (st_assign rfl rfl) ?_
    refine o_nil ?_
    refine a_block ?_
    refine a_seq ?_
    refine a_region ?_
    refine Pstep.go (st_move rfl rfl) ?_
    refine Pstep.go (st_callP (within_p _ _ _) rfl rfl) ?_
    refine Pstep.go (st_notP rfl rfl) ?_
    refine Pstep.go (st_assign rfl rfl) ?_
    refine o_nil ?_
    refine a_if rfl (fun h13 => ?_) (fun h13 => ?_)
    · refine a_seq ?_
      refine a_region ?_
      refine Pstep.go (st_assign rfl rfl) ?_
      refine o_nil ?_
      refine a_ret ?_
      exact ⟨_, [], [], res_of rfl, rfl, rfl, retI (hE.2 2 (by unfold aErr; rw [hg, if_pos h13]) (by decide)), rfl⟩
    · refine a_seq ?_
      refine a_region ?_
      refine Pstep.go (st_move rfl rfl) ?_
      refine Pstep.go (st_fieldP rfl fi33_0 rfl rfl rfl) ?_
      refine Pstep.go (st_loadP rfl rfl rfl on3 rfl) ?_
      refine Pstep.go (st_eql rfl rfl rfl) ?_
      refine Pstep.go (st_move rfl rfl) ?_
      refine o_splitP 22 rfl (fun h22 => ?_) (fun h22 => ?_)
      · refine o_pass rfl rfl rfl rfl ?_
        refine o_pass rfl rfl rfl rfl ?_
        refine o_pass rfl rfl rfl rfl ?_
        refine o_pass rfl rfl rfl rfl ?_
        refine o_pass rfl rfl rfl rfl ?_
        refine o_pass rfl rfl rfl rfl ?_
        refine Pstep.go (st_pickT rfl rfl rfl rfl) ?_
        refine Pstep.go (st_assign rfl rfl) ?_
        refine o_nil ?_
        refine a_true rfl rfl ?_
        refine a_seq ?_
        refine a_region ?_
        refine Pstep.go (st_assign rfl rfl) ?_
        refine o_nil ?_
        refine a_ret ?_
        exact ⟨_, [], [], res_of rfl, rfl, rfl, retI (hE.2 7 (by unfold aErr; rw [hg, if_neg h13, if_pos (.inl h22)]) (by decide)), rfl⟩
      · refine o_run rfl rfl rfl ?_
        refine Pstep.go (st_fieldP rfl fi33_5 rfl rfl rfl) ?_
        refine o_run rfl rfl rfl ?_
        refine Pstep.go (st_loadP rfl rfl rfl on24 rfl) ?_
        refine o_run rfl rfl rfl ?_
        refine Pstep.go (st_move rfl rfl) ?_
        refine o_run rfl rfl rfl ?_
        refine Pstep.go (st_sliceHiM (i.af) (k) rfl rfl rfl (rfl) (by omega) Try.underlying24 sz3 (fun _ => rfl) rfl) ?_
        refine o_run rfl rfl rfl ?_
        refine Pstep.go (st_move rfl rfl) ?_
        refine o_run rfl rfl rfl ?_
        refine Pstep.go (st_callP (contains_p (i.af.take k) _ (by simp; omega)) rfl rfl) ?_
        refine Pstep.go (st_pickF rfl rfl rfl rfl) ?_
        refine Pstep.go (st_assign rfl rfl) ?_
        refine o_nil ?_
        refine a_if rfl (fun h17 => ?_) (fun h17 => ?_)
        · refine a_seq ?_
          refine a_region ?_
          refine Pstep.go (st_assign rfl rfl) ?_
          refine o_nil ?_
          refine a_ret ?_
          exact ⟨_, [], [], res_of rfl, rfl, rfl, retI (hE.2 7 (by unfold aErr; rw [hg, if_neg h13, if_pos (.inr h17)]) (by decide)), rfl⟩
        · refine a_skip ?_
          refine a_region ?_
          refine Pstep.go (st_add rfl rfl (wrapS (k + 1) (by omega)) rfl) ?_
          refine Pstep.go (st_move rfl rfl) ?_
          refine o_nil ?_
          exact ⟨k + 1, ⟨by show k + 1 ≤ _; omega, hE.1 (by unfold aErr; rw [hg, if_neg h13, if_neg (by simp [h22]; exact h17)])⟩, by show i.af.length - (k + 1) < i.af.length - k; omega, lep_of hF [1] rfl (rfl) ⟨rfl, rfl, rfl, rfl, trivial⟩⟩
  · refine a_exit ?_
    refine a_seq ?_
    refine a_region ?_
    refine Pstep.go (st_assign rfl rfl) ?_
    refine o_nil ?_
    refine a_ret ?_
    exact ⟨_, [], [], res_of rfl, rfl, rfl, retI (by rw [hk, fst0_end (by simp; have h := h9; omega)]), rfl⟩
end Go.Proofs.Ytfmpiabmnjmobaa
