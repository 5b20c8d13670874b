/- Layer 28: equality in the reference; the reference's deltas. -/
import Derived.Test.YtfmpiabmnjmobaaRes5
namespace Go.Proofs.Ytfmpiabmnjmobaa
open Go.RowKit

deriving instance DecidableEq for Post
deriving instance DecidableEq for Pay
deriving instance DecidableEq for Itm
deriving instance DecidableEq for Roo
theorem Post.eq_iff {x y : Post} : x = y ↔ x.acc = y.acc ∧ x.d = y.d := by cases x; cases y; simp
theorem Pay.eq_iff {x y : Pay} : x = y ↔ x.f = y.f ∧ x.t = y.t ∧ x.n = y.n := by cases x; cases y; simp
theorem Roo.eq_iff {x y : Roo} : x = y ↔ x.r = y.r ∧ x.n = y.n := by cases x; cases y; simp
theorem Itm.eq_iff {x y : Itm} : x = y ↔ x.id = y.id ∧ x.pr = y.pr ∧ x.sq = y.sq ∧ x.po = y.po ∧ x.pa = y.pa ∧ x.af = y.af := by cases x; cases y; simp
def postC (x : Post) : List Value := [strV x.acc.o, .int .i64 x.acc.k, strV x.acc.a, .int .i64 x.d]
def payC (x : Pay) : List Value := [strV x.f, strV x.t, .int .i64 x.n]
def rooC (x : Roo) : List Value := [.int .i64 x.r.k, strV x.r.acc.o, .int .i64 x.r.acc.k, strV x.r.acc.a, strV x.r.f, strV x.r.t, .int .i64 x.n]
abbrev postT : List TypeDesc := [.string, .int .i64, .string, .int .i64]
abbrev payT : List TypeDesc := [.string, .string, .int .i64]
abbrev rooT : List TypeDesc := [.int .i64, .string, .int .i64, .string, .string, .string, .int .i64]
theorem post_eqC (a b : Post) : eqCells (postC a) (postC b) = decide (a = b) := by
  simp only [postC, eqCells, eqCell_int, eqCell_str, Post.eq_iff, Acc.eq_iff, Bool.and_true, Bool.decide_and, Bool.and_assoc]
theorem pay_eqC (a b : Pay) : eqCells (payC a) (payC b) = decide (a = b) := by
  simp only [payC, eqCells, eqCell_int, eqCell_str, Pay.eq_iff, Bool.and_true, Bool.decide_and, Bool.and_assoc]
theorem roo_eqC (a b : Roo) : eqCells (rooC a) (rooC b) = decide (a = b) := by
  simp only [rooC, eqCells, eqCell_int, eqCell_str, Roo.eq_iff, Rsc.eq_iff, Acc.eq_iff, Bool.and_true, Bool.decide_and, Bool.and_assoc]
theorem post_plain (a : Post) : PlainAre postT (postC a) := plain_cons trivial (plain_cons rfl (plain_cons trivial (plain_cons rfl plain_nil)))
theorem pay_plain (a : Pay) : PlainAre payT (payC a) := plain_cons trivial (plain_cons trivial (plain_cons rfl plain_nil))
theorem roo_plain (a : Roo) : PlainAre rooT (rooC a) := plain_cons rfl (plain_cons trivial (plain_cons rfl (plain_cons trivial (plain_cons trivial (plain_cons trivial (plain_cons rfl plain_nil))))))
theorem neC {p : Prop} [Decidable p] {b : Bool} (h : b = decide p) : (!b) = decide (¬ p) := by rw [h]; simp
theorem tk_succ {α : Type} {a b : List α} {k : Nat} (ha : k < a.length) (hb : k < b.length) (h : a.take k = b.take k) (he : a[k] = b[k]) : a.take (k + 1) = b.take (k + 1) := by
  rw [List.take_succ_eq_append_getElem ha, List.take_succ_eq_append_getElem hb, h, he]
theorem tk_all {α : Type} {a b : List α} {k : Nat} (hl : a.length = b.length) (ha : ¬ k < a.length) (h : a.take k = b.take k) : a = b := by
  rw [List.take_of_length_le (by omega), List.take_of_length_le (by omega)] at h; exact h
theorem ne_at {α : Type} {a b : List α} {k : Nat} (ha : k < a.length) (hb : k < b.length) (he : a[k] ≠ b[k]) : a ≠ b := fun h => by subst h; exact he rfl
abbrev itmB (T : TypeId) (i : Itm) : AObj := .blk T [.d (intD i.id), .d (intD i.pr), .d (intD i.sq), .d (.sl none (i.po.map postD)), .d (.sl none (i.pa.map payD)), .d (.sl none (i.af.map intD))]
set_option maxRecDepth 100000 in
theorem sameitem_p (a b : Itm) (g1 : a.po.length ≤ 100000000) (g2 : a.pa.length ≤ 100000000) (g3 : a.af.length ≤ 100000000) : PCalls Try.prog 35 [.d (itmD a), .d (itmD b)] (.raw (.bool (decide (a = b)))) := by
  refine a_enter Try.func35 rfl rfl Try.ntmps35 rfl rfl rfl fun F hF => ?_
  refine a_seq ?_
  refine a_region ?_
  refine Estep.go (st_box 1 rfl rfl rfl rfl rfl rfl rfl) ?_
  refine Estep.go (st_box 2 rfl rfl rfl rfl rfl rfl rfl) ?_
  refine Pstep.go (st_assign rfl rfl) ?_
  refine o_nil ?_
  refine a_seq ?_
  refine a_seq ?_
  refine a_region ?_
  refine Pstep.go (st_fieldP rfl fi26_0 rfl rfl rfl) ?_
  refine Pstep.go (st_loadP rfl rfl rfl on3 rfl) ?_
  refine Pstep.go (st_fieldP rfl fi26_0 rfl rfl rfl) ?_
  refine Pstep.go (st_loadP rfl rfl rfl on3 rfl) ?_
  refine Pstep.go (st_neq rfl rfl rfl) ?_
  refine Pstep.go (st_move rfl rfl) ?_
  refine o_splitP 13 rfl (fun h13 => ?_) (fun h13 => ?_)
  · refine o_pass rfl rfl rfl rfl ?_
    refine o_pass rfl rfl rfl rfl ?_
    refine o_pass rfl rfl rfl rfl ?_
    refine o_pass rfl rfl rfl rfl ?_
    refine o_pass rfl rfl rfl rfl ?_
    refine Pstep.go (st_pickT rfl rfl rfl rfl) ?_
    refine Pstep.go (st_move rfl rfl) ?_
    refine o_pass rfl rfl rfl rfl ?_
    refine o_pass rfl rfl rfl rfl ?_
    refine o_pass rfl rfl rfl rfl ?_
    refine o_pass rfl rfl rfl rfl ?_
    refine o_pass rfl rfl rfl rfl ?_
    refine Pstep.go (st_pickT rfl rfl rfl rfl) ?_
    refine Pstep.go (st_move rfl rfl) ?_
    refine o_pass rfl rfl rfl rfl ?_
    refine o_pass rfl rfl rfl rfl ?_
    refine o_pass rfl rfl rfl rfl ?_
    refine o_pass rfl rfl rfl rfl ?_
    refine o_pass rfl rfl rfl rfl ?_
    refine o_pass rfl rfl rfl rfl ?_
    refine o_pass rfl rfl rfl rfl ?_
    refine Pstep.go (st_pickT rfl rfl rfl rfl) ?_
    refine Pstep.go (st_move rfl rfl) ?_
    refine o_pass rfl rfl rfl rfl ?_
    refine o_pass rfl rfl rfl rfl ?_
    refine o_pass rfl rfl rfl rfl ?_
    refine o_pass rfl rfl rfl rfl ?_
    refine o_pass rfl rfl rfl rfl ?_
    refine o_pass rfl rfl rfl rfl ?_
    refine o_pass rfl rfl rfl rfl ?_
    refine Pstep.go (st_pickT rfl rfl rfl rfl) ?_
    refine Pstep.go (st_move rfl rfl) ?_
    refine o_pass rfl rfl rfl rfl ?_
    refine o_pass rfl rfl rfl rfl ?_
    refine o_pass rfl rfl rfl rfl ?_
    refine o_pass rfl rfl rfl rfl ?_
    refine o_pass rfl rfl rfl rfl ?_
    refine o_pass rfl rfl rfl rfl ?_
    refine o_pass rfl rfl rfl rfl ?_
    refine Pstep.go (st_pickT rfl rfl rfl rfl) ?_
    refine o_nil ?_
    refine a_true rfl rfl ?_
    refine a_seq ?_
    refine a_region ?_
    refine Pstep.go (st_assign rfl rfl) ?_
    refine o_nil ?_
    refine a_ret ?_
    exact ⟨_, [], [], res_of rfl, rfl, rfl, retF (fun h => by subst h; simp_all), rfl⟩
  · refine o_run rfl rfl rfl ?_
    refine Pstep.go (st_fieldP rfl fi26_1 rfl rfl rfl) ?_
    refine o_run rfl rfl rfl ?_
    refine Pstep.go (st_loadP rfl rfl rfl on3 rfl) ?_
    refine o_run rfl rfl rfl ?_
    refine Pstep.go (st_fieldP rfl fi26_1 rfl rfl rfl) ?_
    refine o_run rfl rfl rfl ?_
    refine Pstep.go (st_loadP rfl rfl rfl on3 rfl) ?_
    refine o_run rfl rfl rfl ?_
    refine Pstep.go (st_neq rfl rfl rfl) ?_
    refine Pstep.go (st_pickF rfl rfl rfl rfl) ?_
    refine Pstep.go (st_move rfl rfl) ?_
    refine o_splitP 20 rfl (fun h20 => ?_) (fun h20 => ?_)
    · refine o_pass rfl rfl rfl rfl ?_
      refine o_pass rfl rfl rfl rfl ?_
      refine o_pass rfl rfl rfl rfl ?_
      refine o_pass rfl rfl rfl rfl ?_
      refine o_pass rfl rfl rfl rfl ?_
      refine Pstep.go (st_pickT rfl rfl rfl rfl) ?_
      refine Pstep.go (st_move rfl rfl) ?_
      refine o_pass rfl rfl rfl rfl ?_
      refine o_pass rfl rfl rfl rfl ?_
      refine o_pass rfl rfl rfl rfl ?_
      refine o_pass rfl rfl rfl rfl ?_
      refine o_pass rfl rfl rfl rfl ?_
      refine o_pass rfl rfl rfl rfl ?_
      refine o_pass rfl rfl rfl rfl ?_
      refine Pstep.go (st_pickT rfl rfl rfl rfl) ?_
      refine Pstep.go (st_move rfl rfl) ?_
      refine o_pass rfl rfl rfl rfl ?_
      refine o_pass rfl rfl rfl rfl ?_
      refine o_pass rfl rfl rfl rfl ?_
      refine o_pass rfl rfl rfl rfl ?_
      refine o_pass rfl rfl rfl rfl ?_
      refine o_pass rfl rfl rfl rfl ?_
      refine o_pass rfl rfl rfl rfl ?_
      refine Pstep.go (st_pickT rfl rfl rfl rfl) ?_
      refine Pstep.go (st_move rfl rfl) ?_
      refine o_pass rfl rfl rfl rfl ?_
      refine o_pass rfl rfl rfl rfl ?_
      refine o_pass rfl rfl rfl rfl ?_
      refine o_pass rfl rfl rfl rfl ?_
      refine o_pass rfl rfl rfl rfl ?_
      refine o_pass rfl rfl rfl rfl ?_
      refine o_pass rfl rfl rfl rfl ?_
      refine Pstep.go (st_pickT rfl rfl rfl rfl) ?_
      refine o_nil ?_
      refine a_true rfl rfl ?_
      refine a_seq ?_
      refine a_region ?_
      refine Pstep.go (st_assign rfl rfl) ?_
      refine o_nil ?_
      refine a_ret ?_
      exact ⟨_, [], [], res_of rfl, rfl, rfl, retF (fun h => by subst h; simp_all), rfl⟩
    · refine o_run rfl rfl rfl ?_
      refine Pstep.go (st_fieldP rfl fi26_2 rfl rfl rfl) ?_
      refine o_run rfl rfl rfl ?_
      refine Pstep.go (st_loadP rfl rfl rfl on3 rfl) ?_
      refine o_run rfl rfl rfl ?_
      refine Pstep.go (st_fieldP rfl fi26_2 rfl rfl rfl) ?_
      refine o_run rfl rfl rfl ?_
      refine Pstep.go (st_loadP rfl rfl rfl on3 rfl) ?_
      refine o_run rfl rfl rfl ?_
      refine Pstep.go (st_neq rfl rfl rfl) ?_
      refine Pstep.go (st_pickF rfl rfl rfl rfl) ?_
      refine Pstep.go (st_move rfl rfl) ?_
      refine o_splitP 27 rfl (fun h27 => ?_) (fun h27 => ?_)
      · refine o_pass rfl rfl rfl rfl ?_
        refine o_pass rfl rfl rfl rfl ?_
        refine o_pass rfl rfl rfl rfl ?_
        refine o_pass rfl rfl rfl rfl ?_
        refine o_pass rfl rfl rfl rfl ?_
        refine o_pass rfl rfl rfl rfl ?_
        refine o_pass rfl rfl rfl rfl ?_
        refine Pstep.go (st_pickT rfl rfl rfl rfl) ?_
        refine Pstep.go (st_move rfl rfl) ?_
        refine o_pass rfl rfl rfl rfl ?_
        refine o_pass rfl rfl rfl rfl ?_
        refine o_pass rfl rfl rfl rfl ?_
        refine o_pass rfl rfl rfl rfl ?_
        refine o_pass rfl rfl rfl rfl ?_
        refine o_pass rfl rfl rfl rfl ?_
        refine o_pass rfl rfl rfl rfl ?_
        refine Pstep.go (st_pickT rfl rfl rfl rfl) ?_
        refine Pstep.go (st_move rfl rfl) ?_
        refine o_pass rfl rfl rfl rfl ?_
        refine o_pass rfl rfl rfl rfl ?_
        refine o_pass rfl rfl rfl rfl ?_
        refine o_pass rfl rfl rfl rfl ?_
        refine o_pass rfl rfl rfl rfl ?_
        refine o_pass rfl rfl rfl rfl ?_
        refine o_pass rfl rfl rfl rfl ?_
        refine Pstep.go (st_pickT rfl rfl rfl rfl) ?_
        refine o_nil ?_
        refine a_true rfl rfl ?_
        refine a_seq ?_
        refine a_region ?_
        refine Pstep.go (st_assign rfl rfl) ?_
        refine o_nil ?_
        refine a_ret ?_
        exact ⟨_, [], [], res_of rfl, rfl, rfl, retF (fun h => by subst h; simp_all), rfl⟩
      · refine o_run rfl rfl rfl ?_
        refine Pstep.go (st_fieldP rfl fi26_3 rfl rfl rfl) ?_
        refine o_run rfl rfl rfl ?_
        refine Pstep.go (st_loadP rfl rfl rfl on22 rfl) ?_
        refine o_run rfl rfl rfl ?_
        refine Pstep.go (st_lenMap rfl Try.underlying22 rfl) ?_
        refine o_run rfl rfl rfl ?_
        refine Pstep.go (st_fieldP rfl fi26_3 rfl rfl rfl) ?_
        refine o_run rfl rfl rfl ?_
        refine Pstep.go (st_loadP rfl rfl rfl on22 rfl) ?_
        refine o_run rfl rfl rfl ?_
        refine Pstep.go (st_lenMap rfl Try.underlying22 rfl) ?_
        refine o_run rfl rfl rfl ?_
        refine Pstep.go (st_neq rfl rfl rfl) ?_
        refine Pstep.go (st_pickF rfl rfl rfl rfl) ?_
        refine Pstep.go (st_move rfl rfl) ?_
        refine o_splitP 36 rfl (fun h36 => ?_) (fun h36 => ?_)
        · refine o_pass rfl rfl rfl rfl ?_
          refine o_pass rfl rfl rfl rfl ?_
          refine o_pass rfl rfl rfl rfl ?_
          refine o_pass rfl rfl rfl rfl ?_
          refine o_pass rfl rfl rfl rfl ?_
          refine o_pass rfl rfl rfl rfl ?_
          refine o_pass rfl rfl rfl rfl ?_
          refine Pstep.go (st_pickT rfl rfl rfl rfl) ?_
          refine Pstep.go (st_move rfl rfl) ?_
          refine o_pass rfl rfl rfl rfl ?_
          refine o_pass rfl rfl rfl rfl ?_
          refine o_pass rfl rfl rfl rfl ?_
          refine o_pass rfl rfl rfl rfl ?_
          refine o_pass rfl rfl rfl rfl ?_
          refine o_pass rfl rfl rfl rfl ?_
          refine o_pass rfl rfl rfl rfl ?_
          refine Pstep.go (st_pickT rfl rfl rfl rfl) ?_
          refine o_nil ?_
          refine a_true rfl rfl ?_
          refine a_seq ?_
          refine a_region ?_
          refine Pstep.go (st_assign rfl rfl) ?_
          refine o_nil ?_
          refine a_ret ?_
          exact ⟨_, [], [], res_of rfl, rfl, rfl, retF (fun h => by subst h; simp_all), rfl⟩
        · refine o_run rfl rfl rfl ?_
          refine Pstep.go (st_fieldP rfl fi26_4 rfl rfl rfl) ?_
          refine o_run rfl rfl rfl ?_
          refine Pstep.go (st_loadP rfl rfl rfl on23 rfl) ?_
          refine o_run rfl rfl rfl ?_
          refine Pstep.go (st_lenMap rfl Try.underlying23 rfl) ?_
          refine o_run rfl rfl rfl ?_
          refine Pstep.go (st_fieldP rfl fi26_4 rfl rfl rfl) ?_
          refine o_run rfl rfl rfl ?_
          refine Pstep.go (st_loadP rfl rfl rfl on23 rfl) ?_
          refine o_run rfl rfl rfl ?_
          refine Pstep.go (st_lenMap rfl Try.underlying23 rfl) ?_
          refine o_run rfl rfl rfl ?_
          refine Pstep.go (st_neq rfl rfl rfl) ?_
          refine Pstep.go (st_pickF rfl rfl rfl rfl) ?_
          refine Pstep.go (st_move rfl rfl) ?_
          refine o_splitP 45 rfl (fun h45 => ?_) (fun h45 => ?_)
          · refine o_pass rfl rfl rfl rfl ?_
            refine o_pass rfl rfl rfl rfl ?_
            refine o_pass rfl rfl rfl rfl ?_
            refine o_pass rfl rfl rfl rfl ?_
            refine o_pass rfl rfl rfl rfl ?_
            refine o_pass rfl rfl rfl rfl ?_
            refine o_pass rfl rfl rfl rfl ?_
            refine Pstep.go (st_pickT rfl rfl rfl rfl) ?_
            refine o_nil ?_
            refine a_true rfl rfl ?_
            refine a_seq ?_
            refine a_region ?_
            refine Pstep.go (st_assign rfl rfl) ?_
            refine o_nil ?_
            refine a_ret ?_
            exact ⟨_, [], [], res_of rfl, rfl, rfl, retF (fun h => by subst h; simp_all), rfl⟩
          · refine o_run rfl rfl rfl ?_
            refine Pstep.go (st_fieldP rfl fi26_5 rfl rfl rfl) ?_
            refine o_run rfl rfl rfl ?_
            refine Pstep.go (st_loadP rfl rfl rfl on24 rfl) ?_
            refine o_run rfl rfl rfl ?_
            refine Pstep.go (st_lenMap rfl Try.underlying24 rfl) ?_
            refine o_run rfl rfl rfl ?_
            refine Pstep.go (st_fieldP rfl fi26_5 rfl rfl rfl) ?_
            refine o_run rfl rfl rfl ?_
            refine Pstep.go (st_loadP rfl rfl rfl on24 rfl) ?_
            refine o_run rfl rfl rfl ?_
            refine Pstep.go (st_lenMap rfl Try.underlying24 rfl) ?_
            refine o_run rfl rfl rfl ?_
            refine Pstep.go (st_neq rfl rfl rfl) ?_
            refine Pstep.go (st_pickF rfl rfl rfl rfl) ?_
            refine o_nil ?_
            refine a_if rfl (fun h53 => ?_) (fun h53 => ?_)
            · refine a_seq ?_
              refine a_region ?_
              refine Pstep.go (st_assign rfl rfl) ?_
              refine o_nil ?_
              refine a_ret ?_
              exact ⟨_, [], [], res_of rfl, rfl, rfl, retF (fun h => by subst h; simp_all), rfl⟩
            · refine a_skip ?_
              refine a_seq ?_
              refine a_seq ?_
              have hpo : a.po.length = b.po.length := by omega
              have hpa : a.pa.length = b.pa.length := by omega
              have haf : a.af.length = b.af.length := by omega
              refine a_region ?_
              refine Pstep.go (st_assign rfl rfl) ?_
              refine o_nil ?_
              refine a_block ?_
              refine a_loopP (α := Nat) (fun k => ⟨108, [(2, (.ptr 1 0 0)), (3, (.ptr 2 0 0)), (5, (.d (intD (k : Int))))], [(1, [itmB 26 a]), (2, [itmB 26 b])]⟩) (fun k => k ≤ a.po.length ∧ a.po.take k = b.po.take k) (fun k => a.po.length - k) (0) (⟨Nat.zero_le _, by simp⟩) (lep_of hF [1, 2] rfl rfl ⟨rfl, rfl, rfl, trivial⟩) ?_
              rintro k ⟨hk0, hk⟩
              refine a_seq ?_
              refine a_seq ?_
              refine a_region ?_
              refine Pstep.go (st_move rfl rfl) ?_
              refine Pstep.go (st_fieldP rfl fi26_3 rfl rfl rfl) ?_
              refine Pstep.go (st_loadP rfl rfl rfl on22 rfl) ?_
              refine Pstep.go (st_lenMap rfl Try.underlying22 rfl) ?_
              refine Pstep.go (st_lss rfl rfl rfl) ?_
              refine o_nil ?_
              refine a_if rfl (fun h58 => ?_) (fun h58 => ?_)
              · have hk1 : k < a.po.length := lt_cast h58
                refine a_skip ?_
                refine a_seq ?_
                refine a_block ?_
                refine a_seq ?_
                refine a_drawn [[], [0], [], [0, 1, 2], [0, 1, 2, 3], [], [5], [], [5, 6, 7], [5, 6, 7, 8], [0, 1, 2, 3, 4, 5, 6, 7, 8, 9]] mixed rfl ?_
                refine dws ?_
                have hk2 : k < b.po.length := by omega
                refine d_pure [2] [] rfl rfl (fun _ => gp_none (st_fieldP rfl fi26_3 rfl rfl rfl)) ?_
                refine d_pureA [61] rfl rfl (fun _ => gp_none (st_loadP rfl rfl rfl on22 rfl)) ?_
                refine d_pure [5] [] rfl rfl (fun _ => gp_none (st_move rfl rfl)) ?_
                refine d_pure [62, 63] [] rfl rfl (fun _ => gp_none (st_indexD (k) rfl rfl (rfl) (getm hk1) Try.underlying22 rfl sz104 rfl)) ?_
                refine d_pure [64] [] rfl rfl (fun _ => gp_none (st_loadDS rfl rfl rw104 rfl)) ?_
                refine d_pure [3] [] rfl rfl (fun _ => gp_none (st_fieldP rfl fi26_3 rfl rfl rfl)) ?_
                refine d_pureA [66] rfl rfl (fun _ => gp_none (st_loadP rfl rfl rfl on22 rfl)) ?_
                refine d_pure [5] [] rfl rfl (fun _ => gp_none (st_move rfl rfl)) ?_
                refine d_pure [67, 68] [] rfl rfl (fun _ => gp_none (st_indexD (k) rfl rfl (rfl) (getm hk2) Try.underlying22 rfl sz104 rfl)) ?_
                refine d_pure [69] [] rfl rfl (fun _ => gp_none (st_loadDS rfl rfl rw104 rfl)) ?_
                refine dwc 10 rfl rfl rfl ?_
                refine dw1 11 rfl rfl ?_
                refine Pstep.go (st_neqSt (la := postC a.po[k]) (lb := postC b.po[k]) (ds := postT) (by kernel_rfl) (by kernel_rfl) (by kernel_rfl) rfl rfl rfl rfl (post_plain _) (post_plain _) (neC (post_eqC _ _)) rfl) ?_
                refine o_nil ⟨rfl, ?_⟩
                refine dwe ?_
                refine a_if rfl (fun h71 => ?_) (fun h71 => ?_)
                · refine a_seq ?_
                  refine a_region ?_
                  refine Pstep.go (st_assign rfl rfl) ?_
                  refine o_nil ?_
                  refine a_ret ?_
                  exact ⟨_, [], [], res_of rfl, rfl, rfl, retF (fun h => ne_at hk1 hk2 h71 (by rw [h])), rfl⟩
                · refine a_skip ?_
                  refine a_region ?_
                  refine Pstep.go (st_move rfl rfl) ?_
                  refine Pstep.go (st_add rfl rfl (wrapS (k + 1) (by omega)) rfl) ?_
                  refine Pstep.go (st_assign rfl rfl) ?_
                  refine o_nil ?_
                  exact ⟨k + 1, ⟨by show k + 1 ≤ _; omega, tk_succ hk1 hk2 hk (by simpa using h71)⟩, by show a.po.length - (k + 1) < a.po.length - k; omega, lep_of hF [1, 2] rfl (rfl) ⟨rfl, rfl, rfl, trivial⟩⟩
              · refine a_exit ?_
                refine a_seq ?_
                refine a_seq ?_
                have hpe := tk_all hpo (by have h := h58; omega) hk
                refine a_region ?_
                refine Pstep.go (st_assign rfl rfl) ?_
                refine o_nil ?_
                refine a_block ?_
                refine a_loopP (α := Nat) (fun k => ⟨108, [(2, (.ptr 1 0 0)), (3, (.ptr 2 0 0)), (6, (.d (intD (k : Int))))], [(1, [itmB 26 a]), (2, [itmB 26 b])]⟩) (fun k => k ≤ a.pa.length ∧ a.pa.take k = b.pa.take k) (fun k => a.pa.length - k) (0) (⟨Nat.zero_le _, by simp⟩) (lep_of hF [1, 2] rfl rfl ⟨rfl, rfl, rfl, trivial⟩) ?_
                rintro k ⟨hk0, hk⟩
                refine a_seq ?_
                refine a_seq ?_
                refine a_region ?_
                refine Pstep.go (st_move rfl rfl) ?_
                refine Pstep.go (st_fieldP rfl fi26_4 rfl rfl rfl) ?_
                refine Pstep.go (st_loadP rfl rfl rfl on23 rfl) ?_
                refine Pstep.go (st_lenMap rfl Try.underlying23 rfl) ?_
                refine Pstep.go (st_lss rfl rfl rfl) ?_
                refine o_nil ?_
                refine a_if rfl (fun h76 => ?_) (fun h76 => ?_)
                · have hk1 : k < a.pa.length := lt_cast h76
                  refine a_skip ?_
                  refine a_seq ?_
                  refine a_block ?_
                  refine a_seq ?_
                  refine a_drawn [[], [0], [], [0, 1, 2], [0, 1, 2, 3], [], [5], [], [5, 6, 7], [5, 6, 7, 8], [0, 1, 2, 3, 4, 5, 6, 7, 8, 9]] mixed rfl ?_
                  refine dws ?_
                  have hk2 : k < b.pa.length := by omega
                  refine d_pure [2] [] rfl rfl (fun _ => gp_none (st_fieldP rfl fi26_4 rfl rfl rfl)) ?_
                  refine d_pureA [79] rfl rfl (fun _ => gp_none (st_loadP rfl rfl rfl on23 rfl)) ?_
                  refine d_pure [6] [] rfl rfl (fun _ => gp_none (st_move rfl rfl)) ?_
                  refine d_pure [80, 81] [] rfl rfl (fun _ => gp_none (st_indexD (k) rfl rfl (rfl) (getm hk1) Try.underlying23 rfl sz109 rfl)) ?_
                  refine d_pure [82] [] rfl rfl (fun _ => gp_none (st_loadDS rfl rfl rw109 rfl)) ?_
                  refine d_pure [3] [] rfl rfl (fun _ => gp_none (st_fieldP rfl fi26_4 rfl rfl rfl)) ?_
                  refine d_pureA [84] rfl rfl (fun _ => gp_none (st_loadP rfl rfl rfl on23 rfl)) ?_
                  refine d_pure [6] [] rfl rfl (fun _ => gp_none (st_move rfl rfl)) ?_
                  refine d_pure [85, 86] [] rfl rfl (fun _ => gp_none (st_indexD (k) rfl rfl (rfl) (getm hk2) Try.underlying23 rfl sz109 rfl)) ?_
                  refine d_pure [87] [] rfl rfl (fun _ => gp_none (st_loadDS rfl rfl rw109 rfl)) ?_
                  refine dwc 10 rfl rfl rfl ?_
                  refine dw1 11 rfl rfl ?_
                  refine Pstep.go (st_neqSt (la := payC a.pa[k]) (lb := payC b.pa[k]) (ds := payT) (by kernel_rfl) (by kernel_rfl) (by kernel_rfl) rfl rfl rfl rfl (pay_plain _) (pay_plain _) (neC (pay_eqC _ _)) rfl) ?_
                  refine o_nil ⟨rfl, ?_⟩
                  refine dwe ?_
                  refine a_if rfl (fun h89 => ?_) (fun h89 => ?_)
                  · refine a_seq ?_
                    refine a_region ?_
                    refine Pstep.go (st_assign rfl rfl) ?_
                    refine o_nil ?_
                    refine a_ret ?_
                    exact ⟨_, [], [], res_of rfl, rfl, rfl, retF (fun h => ne_at hk1 hk2 h89 (by rw [h])), rfl⟩
                  · refine a_skip ?_
                    refine a_region ?_
                    refine Pstep.go (st_move rfl rfl) ?_
                    refine Pstep.go (st_add rfl rfl (wrapS (k + 1) (by omega)) rfl) ?_
                    refine Pstep.go (st_assign rfl rfl) ?_
                    refine o_nil ?_
                    exact ⟨k + 1, ⟨by show k + 1 ≤ _; omega, tk_succ hk1 hk2 hk (by simpa using h89)⟩, by show a.pa.length - (k + 1) < a.pa.length - k; omega, lep_of hF [1, 2] rfl (rfl) ⟨rfl, rfl, rfl, trivial⟩⟩
                · refine a_exit ?_
                  refine a_seq ?_
                  refine a_seq ?_
                  have hye := tk_all hpa (by have h := h76; omega) hk
                  refine a_region ?_
                  refine Pstep.go (st_assign rfl rfl) ?_
                  refine o_nil ?_
                  refine a_block ?_
                  refine a_loopP (α := Nat) (fun k => ⟨108, [(2, (.ptr 1 0 0)), (3, (.ptr 2 0 0)), (7, (.d (intD (k : Int))))], [(1, [itmB 26 a]), (2, [itmB 26 b])]⟩) (fun k => k ≤ a.af.length ∧ a.af.take k = b.af.take k) (fun k => a.af.length - k) (0) (⟨Nat.zero_le _, by simp⟩) (lep_of hF [1, 2] rfl rfl ⟨rfl, rfl, rfl, trivial⟩) ?_
                  rintro k ⟨hk0, hk⟩
                  refine a_seq ?_
                  refine a_seq ?_
                  refine a_region ?_
                  refine Pstep.go (st_move rfl rfl) ?_
                  refine Pstep.go (st_fieldP rfl fi26_5 rfl rfl rfl) ?_
                  refine Pstep.go (st_loadP rfl rfl rfl on24 rfl) ?_
                  refine Pstep.go (st_lenMap rfl Try.underlying24 rfl) ?_
                  refine Pstep.go (st_lss rfl rfl rfl) ?_
                  refine o_nil ?_
                  refine a_if rfl (fun h94 => ?_) (fun h94 => ?_)
                  · have hk1 : k < a.af.length := lt_cast h94
                    refine a_skip ?_
                    refine a_seq ?_
                    refine a_block ?_
                    refine a_seq ?_
                    refine a_drawn [[], [0], [], [0, 1, 2], [0, 1, 2, 3], [], [5], [], [5, 6, 7], [5, 6, 7, 8], [0, 1, 2, 3, 4, 5, 6, 7, 8, 9]] mixed rfl ?_
                    refine dws ?_
                    have hk2 : k < b.af.length := by omega
                    refine d_pure [2] [] rfl rfl (fun _ => gp_none (st_fieldP rfl fi26_5 rfl rfl rfl)) ?_
                    refine d_pureA [97] rfl rfl (fun _ => gp_none (st_loadP rfl rfl rfl on24 rfl)) ?_
                    refine d_pure [7] [] rfl rfl (fun _ => gp_none (st_move rfl rfl)) ?_
                    refine d_pure [98, 99] [] rfl rfl (fun _ => gp_none (st_indexD (k) rfl rfl (rfl) (getm hk1) Try.underlying24 rfl sz3 rfl)) ?_
                    refine d_pure [100] [] rfl rfl (fun _ => gp_none (st_loadD1 rfl rfl on3 rfl)) ?_
                    refine d_pure [3] [] rfl rfl (fun _ => gp_none (st_fieldP rfl fi26_5 rfl rfl rfl)) ?_
                    refine d_pureA [102] rfl rfl (fun _ => gp_none (st_loadP rfl rfl rfl on24 rfl)) ?_
                    refine d_pure [7] [] rfl rfl (fun _ => gp_none (st_move rfl rfl)) ?_
                    refine d_pure [103, 104] [] rfl rfl (fun _ => gp_none (st_indexD (k) rfl rfl (rfl) (getm hk2) Try.underlying24 rfl sz3 rfl)) ?_
                    refine d_pure [105] [] rfl rfl (fun _ => gp_none (st_loadD1 rfl rfl on3 rfl)) ?_
                    refine dwc 10 rfl rfl rfl ?_
                    refine dw1 11 rfl rfl ?_
                    refine Pstep.go (st_neq rfl rfl rfl) ?_
                    refine o_nil ⟨rfl, ?_⟩
                    refine dwe ?_
                    refine a_if rfl (fun h107 => ?_) (fun h107 => ?_)
                    · refine a_seq ?_
                      refine a_region ?_
                      refine Pstep.go (st_assign rfl rfl) ?_
                      refine o_nil ?_
                      refine a_ret ?_
                      exact ⟨_, [], [], res_of rfl, rfl, rfl, retF (fun h => ne_at hk1 hk2 h107 (by rw [h])), rfl⟩
                    · refine a_skip ?_
                      refine a_region ?_
                      refine Pstep.go (st_move rfl rfl) ?_
                      refine Pstep.go (st_add rfl rfl (wrapS (k + 1) (by omega)) rfl) ?_
                      refine Pstep.go (st_assign rfl rfl) ?_
                      refine o_nil ?_
                      exact ⟨k + 1, ⟨by show k + 1 ≤ _; omega, tk_succ hk1 hk2 hk (by simpa using h107)⟩, by show a.af.length - (k + 1) < a.af.length - k; omega, lep_of hF [1, 2] rfl (rfl) ⟨rfl, rfl, rfl, trivial⟩⟩
                  · refine a_exit ?_
                    refine a_seq ?_
                    refine a_region ?_
                    refine Pstep.go (st_assign rfl rfl) ?_
                    refine o_nil ?_
                    refine a_ret ?_
                    exact ⟨_, [], [], res_of rfl, rfl, rfl, retT (Itm.eq_iff.2 ⟨by omega, by omega, by omega, hpe, hye, tk_all haf (by have h := h94; omega) hk⟩), rfl⟩
end Go.Proofs.Ytfmpiabmnjmobaa
