/- Layer 28: equality in the reference; the reference's deltas. -/
import Derived.Test.YtnamabifclidmaaGreatMg17
namespace Go.Proofs.YtnamabifclidmaaGreat
open Go.RowKit

deriving instance DecidableEq for Post
deriving instance DecidableEq for Pay
deriving instance DecidableEq for Itm
deriving instance DecidableEq for Roo
theorem Post.eq_iff {x y : Post} : x = y ↔ x.acc = y.acc ∧ x.d = y.d := by cases x; cases y; simp
theorem Pay.eq_iff {x y : Pay} : x = y ↔ x.f = y.f ∧ x.t = y.t ∧ x.n = y.n := by cases x; cases y; simp
theorem Roo.eq_iff {x y : Roo} : x = y ↔ x.r = y.r ∧ x.n = y.n := by cases x; cases y; simp
theorem Itm.eq_iff {x y : Itm} : x = y ↔ x.id = y.id ∧ x.pr = y.pr ∧ x.sq = y.sq ∧ x.po = y.po ∧ x.pa = y.pa ∧ x.af = y.af := by cases x; cases y; simp
def rooC (x : Roo) : List Value := [.int .i64 x.r.k, strV x.r.acc.o, .int .i64 x.r.acc.k, strV x.r.acc.a, strV x.r.f, strV x.r.t, .int .i64 x.n]
abbrev rooT : List TypeDesc := [.int .i64, .string, .int .i64, .string, .string, .string, .int .i64]
theorem roo_eqC (a b : Roo) : eqCells (rooC a) (rooC b) = decide (a = b) := by
  simp only [rooC, eqCells, eqCell_int, eqCell_str, Roo.eq_iff, Rsc.eq_iff, Acc.eq_iff, Bool.and_true, Bool.decide_and, Bool.and_assoc]
theorem roo_plain (a : Roo) : PlainAre rooT (rooC a) := plain_cons rfl (plain_cons trivial (plain_cons rfl (plain_cons trivial (plain_cons trivial (plain_cons trivial (plain_cons rfl plain_nil))))))
abbrev itmB (T : TypeId) (i : Itm) : AObj := .blk T [.d (intD i.id), .d (intD i.pr), .d (intD i.sq), .d (.sl none (i.po.map postD)), .d (.sl none (i.pa.map payD)), .d (.sl none (i.af.map intD))]
end Go.Proofs.YtnamabifclidmaaGreat
/- Layer 28: equal problems; the reference's deltas. -/
namespace Go.Proofs.YtnamabifclidmaaGreat
open Go.RowKit

set_option maxRecDepth 100000 in
theorem refvalid_p (r : Rsc) : PCalls Tryz.prog 53 [.d (rscD r)] (intD (validE r)) := by
  refine a_enter Tryz.func53 rfl rfl Tryz.ntmps53 rfl rfl rfl fun F hF => ?_
  refine a_seq ?_
  refine a_region ?_
  refine Estep.go (st_box 1 rfl rfl rfl rfl rfl rfl rfl) ?_
  refine Pstep.go (st_assign rfl rfl) ?_
  refine o_nil ?_
  refine a_seq ?_
  refine a_region ?_
  refine Pstep.go (st_fieldP rfl fi52_1 rfl rfl rfl) ?_
  refine Pstep.go (st_loadPS rfl rfl rw50 rfl rfl rfl) ?_
  refine Pstep.go (st_build zl50 pl50 rfl rfl rfl) ?_
  refine Pstep.go (st_eqlSt (la := accC r.acc) (lb := accC accZ) (ds := accT) (by kernel_rfl) (by kernel_rfl) (by kernel_rfl) rfl rfl rfl rfl (acc_plain _) (acc_plain _) (acc_eqC _ _) rfl) ?_
  refine Pstep.go (st_assign rfl rfl) ?_
  refine o_nil ?_
  refine a_seq ?_
  refine a_seq ?_
  refine a_region ?_
  refine Pstep.go (st_fieldP rfl fi52_0 rfl rfl rfl) ?_
  refine Pstep.go (st_loadP rfl rfl rfl on3 rfl) ?_
  refine o_nil ?_
  refine a_block ?_
  refine a_seq ?_
  refine a_region ?_
  refine Pstep.go (st_eql rfl rfl rfl) ?_
  refine Pstep.go (st_assign rfl rfl) ?_
  refine o_nil ?_
  refine a_if rfl (fun h10 => ?_) (fun h10 => ?_)
  · refine a_seq ?_
    refine a_region ?_
    refine Pstep.go (st_fieldP rfl fi52_1 rfl rfl rfl) ?_
    refine Pstep.go (st_fieldP rfl fi50_0 rfl rfl rfl) ?_
    refine Pstep.go (st_loadP rfl rfl rfl on9 rfl) ?_
    refine Pstep.go (st_eqlSL rfl rfl rfl) ?_
    refine Pstep.go (st_move rfl rfl) ?_
    refine o_splitP 16 rfl (fun h16 => ?_) (fun h16 => ?_)
    · refine o_pass rfl rfl rfl rfl ?_
      refine o_pass rfl rfl rfl rfl ?_
      refine o_pass rfl rfl rfl rfl ?_
      refine o_pass rfl rfl rfl rfl ?_
      refine Pstep.go (st_pickT rfl rfl rfl rfl) ?_
      refine Pstep.go (st_move rfl rfl) ?_
      refine o_pass rfl rfl rfl rfl ?_
      refine o_pass rfl rfl rfl rfl ?_
      refine o_pass rfl rfl rfl rfl ?_
      refine o_pass rfl rfl rfl rfl ?_
      refine Pstep.go (st_pickT rfl rfl rfl rfl) ?_
      refine Pstep.go (st_move rfl rfl) ?_
      refine o_pass rfl rfl rfl rfl ?_
      refine o_pass rfl rfl rfl rfl ?_
      refine o_pass rfl rfl rfl rfl ?_
      refine o_pass rfl rfl rfl rfl ?_
      refine Pstep.go (st_pickT rfl rfl rfl rfl) ?_
      refine Pstep.go (st_move rfl rfl) ?_
      refine o_pass rfl rfl rfl rfl ?_
      refine o_pass rfl rfl rfl rfl ?_
      refine o_pass rfl rfl rfl rfl ?_
      refine Pstep.go (st_pickT rfl rfl rfl rfl) ?_
      refine Pstep.go (st_move rfl rfl) ?_
      refine o_pass rfl rfl rfl rfl ?_
      refine o_pass rfl rfl rfl rfl ?_
      refine o_pass rfl rfl rfl rfl ?_
      refine Pstep.go (st_pickT rfl rfl rfl rfl) ?_
      refine o_nil ?_
      refine a_true rfl rfl ?_
      refine a_seq ?_
      refine a_region ?_
      refine Pstep.go (st_assign rfl rfl) ?_
      refine o_nil ?_
      refine a_ret ?_
      exact ⟨_, [], [], res_of rfl, rfl, rfl, retI (by unfold validE; simp_all <;> (intros; omega)), rfl⟩
    · refine o_run rfl rfl rfl ?_
      refine Pstep.go (st_fieldP rfl fi52_1 rfl rfl rfl) ?_
      refine o_run rfl rfl rfl ?_
      refine Pstep.go (st_fieldP rfl fi50_2 rfl rfl rfl) ?_
      refine o_run rfl rfl rfl ?_
      refine Pstep.go (st_loadP rfl rfl rfl on9 rfl) ?_
      refine o_run rfl rfl rfl ?_
      refine Pstep.go (st_eqlSL rfl rfl rfl) ?_
      refine Pstep.go (st_pickF rfl rfl rfl rfl) ?_
      refine Pstep.go (st_move rfl rfl) ?_
      refine o_splitP 22 rfl (fun h22 => ?_) (fun h22 => ?_)
      · refine o_pass rfl rfl rfl rfl ?_
        refine o_pass rfl rfl rfl rfl ?_
        refine o_pass rfl rfl rfl rfl ?_
        refine o_pass rfl rfl rfl rfl ?_
        refine Pstep.go (st_pickT rfl rfl rfl rfl) ?_
        refine Pstep.go (st_move rfl rfl) ?_
        refine o_pass rfl rfl rfl rfl ?_
        refine o_pass rfl rfl rfl rfl ?_
        refine o_pass rfl rfl rfl rfl ?_
        refine o_pass rfl rfl rfl rfl ?_
        refine Pstep.go (st_pickT rfl rfl rfl rfl) ?_
        refine Pstep.go (st_move rfl rfl) ?_
        refine o_pass rfl rfl rfl rfl ?_
        refine o_pass rfl rfl rfl rfl ?_
        refine o_pass rfl rfl rfl rfl ?_
        refine Pstep.go (st_pickT rfl rfl rfl rfl) ?_
        refine Pstep.go (st_move rfl rfl) ?_
        refine o_pass rfl rfl rfl rfl ?_
        refine o_pass rfl rfl rfl rfl ?_
        refine o_pass rfl rfl rfl rfl ?_
        refine Pstep.go (st_pickT rfl rfl rfl rfl) ?_
        refine o_nil ?_
        refine a_true rfl rfl ?_
        refine a_seq ?_
        refine a_region ?_
        refine Pstep.go (st_assign rfl rfl) ?_
        refine o_nil ?_
        refine a_ret ?_
        exact ⟨_, [], [], res_of rfl, rfl, rfl, retI (by unfold validE; simp_all <;> (intros; omega)), rfl⟩
      · refine o_run rfl rfl rfl ?_
        refine Pstep.go (st_fieldP rfl fi52_1 rfl rfl rfl) ?_
        refine o_run rfl rfl rfl ?_
        refine Pstep.go (st_fieldP rfl fi50_1 rfl rfl rfl) ?_
        refine o_run rfl rfl rfl ?_
        refine Pstep.go (st_loadP rfl rfl rfl on3 rfl) ?_
        refine o_run rfl rfl rfl ?_
        refine Pstep.go (st_lss rfl rfl rfl) ?_
        refine Pstep.go (st_pickF rfl rfl rfl rfl) ?_
        refine Pstep.go (st_move rfl rfl) ?_
        refine o_splitP 28 rfl (fun h28 => ?_) (fun h28 => ?_)
        · refine o_pass rfl rfl rfl rfl ?_
          refine o_pass rfl rfl rfl rfl ?_
          refine o_pass rfl rfl rfl rfl ?_
          refine o_pass rfl rfl rfl rfl ?_
          refine Pstep.go (st_pickT rfl rfl rfl rfl) ?_
          refine Pstep.go (st_move rfl rfl) ?_
          refine o_pass rfl rfl rfl rfl ?_
          refine o_pass rfl rfl rfl rfl ?_
          refine o_pass rfl rfl rfl rfl ?_
          refine Pstep.go (st_pickT rfl rfl rfl rfl) ?_
          refine Pstep.go (st_move rfl rfl) ?_
          refine o_pass rfl rfl rfl rfl ?_
          refine o_pass rfl rfl rfl rfl ?_
          refine o_pass rfl rfl rfl rfl ?_
          refine Pstep.go (st_pickT rfl rfl rfl rfl) ?_
          refine o_nil ?_
          refine a_true rfl rfl ?_
          refine a_seq ?_
          refine a_region ?_
          refine Pstep.go (st_assign rfl rfl) ?_
          refine o_nil ?_
          refine a_ret ?_
          exact ⟨_, [], [], res_of rfl, rfl, rfl, retI (by unfold validE; simp_all <;> (intros; omega)), rfl⟩
        · refine o_run rfl rfl rfl ?_
          refine Pstep.go (st_fieldP rfl fi52_1 rfl rfl rfl) ?_
          refine o_run rfl rfl rfl ?_
          refine Pstep.go (st_fieldP rfl fi50_1 rfl rfl rfl) ?_
          refine o_run rfl rfl rfl ?_
          refine Pstep.go (st_loadP rfl rfl rfl on3 rfl) ?_
          refine o_run rfl rfl rfl ?_
          refine Pstep.go (st_gtr rfl rfl rfl) ?_
          refine Pstep.go (st_pickF rfl rfl rfl rfl) ?_
          refine Pstep.go (st_move rfl rfl) ?_
          refine o_splitP 34 rfl (fun h34 => ?_) (fun h34 => ?_)
          · refine o_pass rfl rfl rfl rfl ?_
            refine o_pass rfl rfl rfl rfl ?_
            refine o_pass rfl rfl rfl rfl ?_
            refine Pstep.go (st_pickT rfl rfl rfl rfl) ?_
            refine Pstep.go (st_move rfl rfl) ?_
            refine o_pass rfl rfl rfl rfl ?_
            refine o_pass rfl rfl rfl rfl ?_
            refine o_pass rfl rfl rfl rfl ?_
            refine Pstep.go (st_pickT rfl rfl rfl rfl) ?_
            refine o_nil ?_
            refine a_true rfl rfl ?_
            refine a_seq ?_
            refine a_region ?_
            refine Pstep.go (st_assign rfl rfl) ?_
            refine o_nil ?_
            refine a_ret ?_
            exact ⟨_, [], [], res_of rfl, rfl, rfl, retI (by unfold validE; simp_all <;> (intros; omega)), rfl⟩
          · refine o_run rfl rfl rfl ?_
            refine Pstep.go (st_fieldP rfl fi52_2 rfl rfl rfl) ?_
            refine o_run rfl rfl rfl ?_
            refine Pstep.go (st_loadP rfl rfl rfl on9 rfl) ?_
            refine o_run rfl rfl rfl ?_
            refine Pstep.go (st_neqSL rfl rfl rfl) ?_
            refine Pstep.go (st_pickF rfl rfl rfl rfl) ?_
            refine Pstep.go (st_move rfl rfl) ?_
            refine o_splitP 39 rfl (fun h39 => ?_) (fun h39 => ?_)
            · refine o_pass rfl rfl rfl rfl ?_
              refine o_pass rfl rfl rfl rfl ?_
              refine o_pass rfl rfl rfl rfl ?_
              refine Pstep.go (st_pickT rfl rfl rfl rfl) ?_
              refine o_nil ?_
              refine a_true rfl rfl ?_
              refine a_seq ?_
              refine a_region ?_
              refine Pstep.go (st_assign rfl rfl) ?_
              refine o_nil ?_
              refine a_ret ?_
              exact ⟨_, [], [], res_of rfl, rfl, rfl, retI (by unfold validE; simp_all <;> (intros; omega)), rfl⟩
            · refine o_run rfl rfl rfl ?_
              refine Pstep.go (st_fieldP rfl fi52_3 rfl rfl rfl) ?_
              refine o_run rfl rfl rfl ?_
              refine Pstep.go (st_loadP rfl rfl rfl on9 rfl) ?_
              refine o_run rfl rfl rfl ?_
              refine Pstep.go (st_neqSL rfl rfl rfl) ?_
              refine Pstep.go (st_pickF rfl rfl rfl rfl) ?_
              refine o_nil ?_
              refine a_if rfl (fun h43 => ?_) (fun h43 => ?_)
              · refine a_seq ?_
                refine a_region ?_
                refine Pstep.go (st_assign rfl rfl) ?_
                refine o_nil ?_
                refine a_ret ?_
                exact ⟨_, [], [], res_of rfl, rfl, rfl, retI (by unfold validE; simp_all <;> (intros; omega)), rfl⟩
              · refine a_skip ?_
                refine a_seq ?_
                refine a_region ?_
                refine Pstep.go (st_assign rfl rfl) ?_
                refine o_nil ?_
                refine a_ret ?_
                exact ⟨_, [], [], res_of rfl, rfl, rfl, retI (by unfold validE; simp_all <;> (intros; omega)), rfl⟩
  · refine a_seq ?_
    refine a_region ?_
    refine Pstep.go (st_eql rfl rfl rfl) ?_
    refine Pstep.go (st_assign rfl rfl) ?_
    refine o_nil ?_
    refine a_if rfl (fun h44 => ?_) (fun h44 => ?_)
    · refine a_seq ?_
      refine a_region ?_
      refine Pstep.go (st_move rfl rfl) ?_
      refine Pstep.go (st_notP rfl rfl) ?_
      refine Pstep.go (st_move rfl rfl) ?_
      refine o_splitP 48 rfl (fun h48 => ?_) (fun h48 => ?_)
      · refine o_pass rfl rfl rfl rfl ?_
        refine o_pass rfl rfl rfl rfl ?_
        refine o_pass rfl rfl rfl rfl ?_
        refine Pstep.go (st_pickT rfl rfl rfl rfl) ?_
        refine Pstep.go (st_move rfl rfl) ?_
        refine o_pass rfl rfl rfl rfl ?_
        refine o_pass rfl rfl rfl rfl ?_
        refine o_pass rfl rfl rfl rfl ?_
        refine Pstep.go (st_pickT rfl rfl rfl rfl) ?_
        refine Pstep.go (st_move rfl rfl) ?_
        refine o_pass rfl rfl rfl rfl ?_
        refine o_pass rfl rfl rfl rfl ?_
        refine o_pass rfl rfl rfl rfl ?_
        refine o_pass rfl rfl rfl rfl ?_
        refine o_pass rfl rfl rfl rfl ?_
        refine Pstep.go (st_pickT rfl rfl rfl rfl) ?_
        refine o_nil ?_
        refine a_true rfl rfl ?_
        refine a_seq ?_
        refine a_region ?_
        refine Pstep.go (st_assign rfl rfl) ?_
        refine o_nil ?_
        refine a_ret ?_
        exact ⟨_, [], [], res_of rfl, rfl, rfl, retI (by unfold validE; simp_all <;> (intros; omega)), rfl⟩
      · refine o_run rfl rfl rfl ?_
        refine Pstep.go (st_fieldP rfl fi52_2 rfl rfl rfl) ?_
        refine o_run rfl rfl rfl ?_
        refine Pstep.go (st_loadP rfl rfl rfl on9 rfl) ?_
        refine o_run rfl rfl rfl ?_
        refine Pstep.go (st_eqlSL rfl rfl rfl) ?_
        refine Pstep.go (st_pickF rfl rfl rfl rfl) ?_
        refine Pstep.go (st_move rfl rfl) ?_
        refine o_splitP 53 rfl (fun h53 => ?_) (fun h53 => ?_)
        · refine o_pass rfl rfl rfl rfl ?_
          refine o_pass rfl rfl rfl rfl ?_
          refine o_pass rfl rfl rfl rfl ?_
          refine Pstep.go (st_pickT rfl rfl rfl rfl) ?_
          refine Pstep.go (st_move rfl rfl) ?_
          refine o_pass rfl rfl rfl rfl ?_
          refine o_pass rfl rfl rfl rfl ?_
          refine o_pass rfl rfl rfl rfl ?_
          refine o_pass rfl rfl rfl rfl ?_
          refine o_pass rfl rfl rfl rfl ?_
          refine Pstep.go (st_pickT rfl rfl rfl rfl) ?_
          refine o_nil ?_
          refine a_true rfl rfl ?_
          refine a_seq ?_
          refine a_region ?_
          refine Pstep.go (st_assign rfl rfl) ?_
          refine o_nil ?_
          refine a_ret ?_
          exact ⟨_, [], [], res_of rfl, rfl, rfl, retI (by unfold validE; simp_all <;> (intros; omega)), rfl⟩
        · refine o_run rfl rfl rfl ?_
          refine Pstep.go (st_fieldP rfl fi52_3 rfl rfl rfl) ?_
          refine o_run rfl rfl rfl ?_
          refine Pstep.go (st_loadP rfl rfl rfl on9 rfl) ?_
          refine o_run rfl rfl rfl ?_
          refine Pstep.go (st_eqlSL rfl rfl rfl) ?_
          refine Pstep.go (st_pickF rfl rfl rfl rfl) ?_
          refine Pstep.go (st_move rfl rfl) ?_
          refine o_splitP 58 rfl (fun h58 => ?_) (fun h58 => ?_)
          · refine o_pass rfl rfl rfl rfl ?_
            refine o_pass rfl rfl rfl rfl ?_
            refine o_pass rfl rfl rfl rfl ?_
            refine o_pass rfl rfl rfl rfl ?_
            refine o_pass rfl rfl rfl rfl ?_
            refine Pstep.go (st_pickT rfl rfl rfl rfl) ?_
            refine o_nil ?_
            refine a_true rfl rfl ?_
            refine a_seq ?_
            refine a_region ?_
            refine Pstep.go (st_assign rfl rfl) ?_
            refine o_nil ?_
            refine a_ret ?_
            exact ⟨_, [], [], res_of rfl, rfl, rfl, retI (by unfold validE; simp_all <;> (intros; omega)), rfl⟩
          · refine o_run rfl rfl rfl ?_
            refine Pstep.go (st_fieldP rfl fi52_2 rfl rfl rfl) ?_
            refine o_run rfl rfl rfl ?_
            refine Pstep.go (st_loadP rfl rfl rfl on9 rfl) ?_
            refine o_run rfl rfl rfl ?_
            refine Pstep.go (st_fieldP rfl fi52_3 rfl rfl rfl) ?_
            refine o_run rfl rfl rfl ?_
            refine Pstep.go (st_loadP rfl rfl rfl on9 rfl) ?_
            refine o_run rfl rfl rfl ?_
            refine Pstep.go (st_eqlSL rfl rfl rfl) ?_
            refine Pstep.go (st_pickF rfl rfl rfl rfl) ?_
            refine o_nil ?_
            refine a_if rfl (fun h64 => ?_) (fun h64 => ?_)
            · refine a_seq ?_
              refine a_region ?_
              refine Pstep.go (st_assign rfl rfl) ?_
              refine o_nil ?_
              refine a_ret ?_
              exact ⟨_, [], [], res_of rfl, rfl, rfl, retI (by unfold validE; simp_all <;> (intros; omega)), rfl⟩
            · refine a_skip ?_
              refine a_seq ?_
              refine a_region ?_
              refine Pstep.go (st_assign rfl rfl) ?_
              refine o_nil ?_
              refine a_ret ?_
              exact ⟨_, [], [], res_of rfl, rfl, rfl, retI (by unfold validE; simp_all <;> (intros; omega)), rfl⟩
    · refine a_seq ?_
      refine a_region ?_
      refine Pstep.go (st_eql rfl rfl rfl) ?_
      refine Pstep.go (st_assign rfl rfl) ?_
      refine o_nil ?_
      refine a_if rfl (fun h65 => ?_) (fun h65 => ?_)
      · refine a_seq ?_
        refine a_region ?_
        refine Pstep.go (st_move rfl rfl) ?_
        refine Pstep.go (st_notP rfl rfl) ?_
        refine Pstep.go (st_move rfl rfl) ?_
        refine o_splitP 69 rfl (fun h69 => ?_) (fun h69 => ?_)
        · refine o_pass rfl rfl rfl rfl ?_
          refine o_pass rfl rfl rfl rfl ?_
          refine o_pass rfl rfl rfl rfl ?_
          refine Pstep.go (st_pickT rfl rfl rfl rfl) ?_
          refine Pstep.go (st_move rfl rfl) ?_
          refine o_pass rfl rfl rfl rfl ?_
          refine o_pass rfl rfl rfl rfl ?_
          refine o_pass rfl rfl rfl rfl ?_
          refine Pstep.go (st_pickT rfl rfl rfl rfl) ?_
          refine o_nil ?_
          refine a_true rfl rfl ?_
          refine a_seq ?_
          refine a_region ?_
          refine Pstep.go (st_assign rfl rfl) ?_
          refine o_nil ?_
          refine a_ret ?_
          exact ⟨_, [], [], res_of rfl, rfl, rfl, retI (by unfold validE; simp_all <;> (intros; omega)), rfl⟩
        · refine o_run rfl rfl rfl ?_
          refine Pstep.go (st_fieldP rfl fi52_2 rfl rfl rfl) ?_
          refine o_run rfl rfl rfl ?_
          refine Pstep.go (st_loadP rfl rfl rfl on9 rfl) ?_
          refine o_run rfl rfl rfl ?_
          refine Pstep.go (st_eqlSL rfl rfl rfl) ?_
          refine Pstep.go (st_pickF rfl rfl rfl rfl) ?_
          refine Pstep.go (st_move rfl rfl) ?_
          refine o_splitP 74 rfl (fun h74 => ?_) (fun h74 => ?_)
          · refine o_pass rfl rfl rfl rfl ?_
            refine o_pass rfl rfl rfl rfl ?_
            refine o_pass rfl rfl rfl rfl ?_
            refine Pstep.go (st_pickT rfl rfl rfl rfl) ?_
            refine o_nil ?_
            refine a_true rfl rfl ?_
            refine a_seq ?_
            refine a_region ?_
            refine Pstep.go (st_assign rfl rfl) ?_
            refine o_nil ?_
            refine a_ret ?_
            exact ⟨_, [], [], res_of rfl, rfl, rfl, retI (by unfold validE; simp_all <;> (intros; omega)), rfl⟩
          · refine o_run rfl rfl rfl ?_
            refine Pstep.go (st_fieldP rfl fi52_3 rfl rfl rfl) ?_
            refine o_run rfl rfl rfl ?_
            refine Pstep.go (st_loadP rfl rfl rfl on9 rfl) ?_
            refine o_run rfl rfl rfl ?_
            refine Pstep.go (st_neqSL rfl rfl rfl) ?_
            refine Pstep.go (st_pickF rfl rfl rfl rfl) ?_
            refine o_nil ?_
            refine a_if rfl (fun h78 => ?_) (fun h78 => ?_)
            · refine a_seq ?_
              refine a_region ?_
              refine Pstep.go (st_assign rfl rfl) ?_
              refine o_nil ?_
              refine a_ret ?_
              exact ⟨_, [], [], res_of rfl, rfl, rfl, retI (by unfold validE; simp_all <;> (intros; omega)), rfl⟩
            · refine a_skip ?_
              refine a_seq ?_
              refine a_region ?_
              refine Pstep.go (st_assign rfl rfl) ?_
              refine o_nil ?_
              refine a_ret ?_
              exact ⟨_, [], [], res_of rfl, rfl, rfl, retI (by unfold validE; simp_all <;> (intros; omega)), rfl⟩
      · refine a_seq ?_
        refine a_region ?_
        refine Pstep.go (st_assign rfl rfl) ?_
        refine o_nil ?_
        refine a_ret ?_
        exact ⟨_, [], [], res_of rfl, rfl, rfl, retI (by unfold validE; simp_all <;> (intros; omega)), rfl⟩
set_option maxRecDepth 100000 in
theorem refdelta_p (i : Itm) (r : Rsc) (g1 : i.po.length ≤ 1000) (g2 : i.pa.length ≤ 1000) (g3 : i.af.length ≤ 1000) : PCalls Tryz.prog 52 [.d (itmD i), .d (rscD r)] (intD (dltE i r)) := by
  by_cases hE : checkE i = 0
  · have hb := (check_ok hE).1
    have hck := refcheck_p i g1 g2 g3
    rw [hE] at hck
    refine a_enter Tryz.func52 rfl rfl Tryz.ntmps52 rfl rfl rfl fun F hF => ?_
    refine a_seq ?_
    refine a_region ?_
    refine Estep.go (st_box 1 rfl rfl rfl rfl rfl rfl rfl) ?_
    refine Estep.go (st_box 2 rfl rfl rfl rfl rfl rfl rfl) ?_
    refine Pstep.go (st_assign rfl rfl) ?_
    refine o_nil ?_
    refine a_seq ?_
    refine a_seq ?_
    refine a_region ?_
    refine Pstep.go (st_loadPS rfl rfl rw80 rfl rfl rfl) ?_
    refine Pstep.go (st_callP (hck) rfl rfl) ?_
    refine Pstep.go (st_neq rfl rfl rfl) ?_
    refine Pstep.go (st_move rfl rfl) ?_
    refine o_setF 8 rfl (by decide) ?_
    refine o_run rfl rfl rfl ?_
    refine Pstep.go (st_loadPS rfl rfl rw52 rfl rfl rfl) ?_
    refine o_run rfl rfl rfl ?_
    refine Pstep.go (st_callP (refvalid_p r) rfl rfl) ?_
    refine o_run rfl rfl rfl ?_
    refine Pstep.go (st_neq rfl rfl rfl) ?_
    refine Pstep.go (st_pickF rfl rfl rfl rfl) ?_
    refine o_nil ?_
    refine a_if rfl (fun h12 => ?_) (fun h12 => ?_)
    · refine a_seq ?_
      refine a_region ?_
      refine Pstep.go (st_assign rfl rfl) ?_
      refine o_nil ?_
      refine a_ret ?_
      exact ⟨_, [], [], res_of rfl, rfl, rfl, retI (by rw [dltE, if_neg]; simp_all), rfl⟩
    · refine a_skip ?_
      refine a_seq ?_
      refine a_region ?_
      refine Pstep.go (st_loadPS rfl rfl rw80 rfl rfl rfl) ?_
      refine Pstep.go (st_loadPS rfl rfl rw52 rfl rfl rfl) ?_
      refine Pstep.go (st_callP (rdelta_p i r hb) rfl rfl) ?_
      refine Pstep.go (st_assign rfl rfl) ?_
      refine o_nil ?_
      refine a_ret ?_
      exact ⟨_, [], [], res_of rfl, rfl, rfl, retI (by rw [dltE, if_pos ⟨hE, by simpa using h12⟩, rdelta_eq (by simpa using h12)]), rfl⟩
  · have hck := refcheck_p i g1 g2 g3
    have hS : dltE i r = 0 := if_neg fun h => hE h.1
    rw [hS]
    refine a_enter Tryz.func52 rfl rfl Tryz.ntmps52 rfl rfl rfl fun F hF => ?_
    refine a_seq ?_
    refine a_region ?_
    refine Estep.go (st_box 1 rfl rfl rfl rfl rfl rfl rfl) ?_
    refine Estep.go (st_box 2 rfl rfl rfl rfl rfl rfl rfl) ?_
    refine Pstep.go (st_assign rfl rfl) ?_
    refine o_nil ?_
    refine a_seq ?_
    refine a_seq ?_
    refine a_region ?_
    refine Pstep.go (st_loadPS rfl rfl rw80 rfl rfl rfl) ?_
    refine Pstep.go (st_callP (hck) rfl rfl) ?_
    refine Pstep.go (st_neq rfl rfl rfl) ?_
    refine Pstep.go (st_move rfl rfl) ?_
    refine o_setT 8 rfl ((by simpa using hE)) ?_
    refine o_pass rfl rfl rfl rfl ?_
    refine o_pass rfl rfl rfl rfl ?_
    refine o_pass rfl rfl rfl rfl ?_
    refine Pstep.go (st_pickT rfl rfl rfl rfl) ?_
    refine o_nil ?_
    refine a_true rfl rfl ?_
    refine a_seq ?_
    refine a_region ?_
    refine Pstep.go (st_assign rfl rfl) ?_
    refine o_nil ?_
    refine a_ret ?_
    exact ⟨_, [], [], res_of rfl, rfl, rfl, rfl, rfl⟩
theorem flt_snoc {α : Type} {p : α → Bool} {l : List α} {k : Nat} (hk : k < l.length) : (l.take (k + 1)).filter p = (l.take k).filter p ++ (if p l[k] then [l[k]] else []) := by
  rw [List.take_succ_eq_append_getElem hk, List.filter_append]
  congr 1
  rw [List.filter_cons, List.filter_nil]
end Go.Proofs.YtnamabifclidmaaGreat
/- Layer 28: a problem's rooms. -/
namespace Go.Proofs.YtnamabifclidmaaGreat
open Go.RowKit

abbrev boolD (b : Bool) : D := .raw (.bool b)
def setM {α : Type} (l : List α) : List (α × Bool) := l.map fun a => (a, true)
theorem setM_get {α : Type} [DecidableEq α] (l : List α) (a : α) : mget (setM l) a false = decide (a ∈ l) := by
  induction l with
  | nil => rfl
  | cons b l ih =>
    simp only [setM, List.map_cons, mget]
    by_cases h : a = b
    · rw [if_pos h]; simp [h]
    · rw [if_neg h]; simp only [setM] at ih; rw [ih]; simp [h]
theorem setM_put {α : Type} [DecidableEq α] {l : List α} {a : α} (h : a ∉ l) : mput (setM l) a true = setM (l ++ [a]) := by
  induction l with
  | nil => rfl
  | cons b l ih =>
    simp only [List.mem_cons, not_or] at h
    simp only [setM, List.map_cons, List.cons_append, mput]
    rw [if_neg h.1]
    have := ih h.2
    simp only [setM] at this
    rw [this]
def roo0 : Roo := ⟨⟨0, accZ, [], []⟩, 0⟩
def rErr (l : List Roo) (k : Nat) : Int := if validE (l.getD k roo0).r ≠ 0 then validE (l.getD k roo0).r else if ¬ (-4 * Mx ≤ (l.getD k roo0).n ∧ (l.getD k roo0).n ≤ 4 * Mx) then 12 else if (l.getD k roo0).r ∈ (l.take k).map Roo.r then 7 else 0
def roomsE (l : List Roo) : Int := fst0 ((List.range l.length).map (rErr l))
theorem getD_at {α : Type} {l : List α} {k : Nat} (d : α) (h : k < l.length) : l.getD k d = l[k] := by rw [List.getD_eq_getElem?_getD, List.getElem?_eq_getElem h]; rfl
theorem tk_map {α β : Type} {l : List α} {f : α → β} {k : Nat} (hk : k < l.length) : (l.take (k + 1)).map f = (l.take k).map f ++ [f l[k]] := by rw [List.take_succ_eq_append_getElem hk, List.map_append]; rfl
set_option maxRecDepth 100000 in
theorem rooms_p (p : Prb) (hl : p.ro.length ≤ 100000) : PCalls Tryz.prog 113 [.d (prbD p)] (intD (roomsE p.ro)) := by
  refine a_enter Tryz.func113 rfl rfl Tryz.ntmps113 rfl rfl rfl fun F hF => ?_
  refine a_seq ?_
  refine a_region ?_
  refine Estep.go (st_box 1 rfl rfl rfl rfl rfl rfl rfl) ?_
  refine Pstep.go (st_assign rfl rfl) ?_
  refine o_nil ?_
  refine a_seq ?_
  refine a_region ?_
  refine Estep.go (st_makeMap 2 rfl rfl rfl rfl) ?_
  refine Pstep.go (st_assign rfl rfl) ?_
  refine o_nil ?_
  refine a_seq ?_
  refine a_seq ?_
  refine a_region ?_
  refine Pstep.go (st_fieldP rfl fi35_0 rfl rfl rfl) ?_
  refine Pstep.go (st_loadP rfl rfl rfl on32 rfl) ?_
  refine Pstep.go (st_lenMap rfl Tryz.underlying32 rfl) ?_
  refine Pstep.go (st_move rfl rfl) ?_
  refine o_nil ?_
  refine a_block ?_
  refine a_loopP (α := Nat) (fun k => ⟨35, [(3, (.map 2 0)), (9, (.d (.sl none (p.ro.map rooD)))), (10, (.d (intD (p.ro.length : Int)))), (11, (.d (intD (k : Int))))], [(2, [mapC rscD boolD (setM ((p.ro.take k).map Roo.r))])]⟩) (fun k => k ≤ p.ro.length ∧ roomsE p.ro = fst0 (((List.range p.ro.length).drop k).map (rErr p.ro))) (fun k => p.ro.length - k) (0) (⟨Nat.zero_le _, rfl⟩) (lep_of hF [2] rfl rfl ⟨rfl, rfl, rfl, rfl, trivial⟩) ?_
  rintro k ⟨hk0, hk⟩
  refine a_seq ?_
  refine a_region ?_
  refine Pstep.go (st_lss rfl rfl rfl) ?_
  refine o_nil ?_
  refine a_seq ?_
  refine a_if rfl (fun h12 => ?_) (fun h12 => ?_)
  · have hk1 : k < p.ro.length := lt_cast h12
    refine a_skip ?_
    refine a_seq ?_
    refine a_block ?_
    refine a_seq ?_
    refine a_region ?_
    have hE := range_cases hk1 hk
    have hgd := getD_at roo0 hk1
    refine Pstep.go (st_indexD (k) rfl rfl (rfl) (getm hk1) Tryz.underlying32 rfl sz70 rfl) ?_
    refine Pstep.go (st_loadDS rfl rfl rw70 rfl) ?_
    refine Estep.go (st_alloc 3 zl70 rfl rfl rfl rfl) ?_
    refine Estep.go (st_storeP rfl rfl rfl rfl rfl rfl rfl sz70) ?_
    refine o_nil ?_
    refine a_seq ?_
    refine a_seq ?_
    refine a_region ?_
    refine Pstep.go (st_fieldP rfl fi70_0 rfl rfl rfl) ?_
    refine Pstep.go (st_loadPS rfl rfl rw47 rfl rfl rfl) ?_
    refine Pstep.go (st_callP (valid_p p.ro[k].r) rfl rfl) ?_
    refine Pstep.go (st_assign rfl rfl) ?_
    refine o_nil ?_
    refine a_seq ?_
    refine a_region ?_
    refine Pstep.go (st_move rfl rfl) ?_
    refine Pstep.go (st_neq rfl rfl rfl) ?_
    refine o_nil ?_
    refine a_if rfl (fun h19 => ?_) (fun h19 => ?_)
    · refine a_seq ?_
      refine a_region ?_
      refine Pstep.go (st_move rfl rfl) ?_
      refine Pstep.go (st_assign rfl rfl) ?_
      refine o_nil ?_
      refine a_ret ?_
      exact ⟨_, [], [], res_of rfl, rfl, rfl, retI (hE.2 _ (by unfold rErr; rw [hgd, if_pos h19]) h19), rfl⟩
    · refine a_skip ?_
      refine a_seq ?_
      refine a_block ?_
      refine a_seq ?_
      refine a_region ?_
      refine Pstep.go (st_fieldP rfl fi70_1 rfl rfl rfl) ?_
      refine Pstep.go (st_loadP rfl rfl rfl on2 rfl) ?_
      refine Pstep.go (st_callP (within64_p _ _ _) rfl rfl) ?_
      refine Pstep.go (st_notP rfl rfl) ?_
      refine Pstep.go (st_assign rfl rfl) ?_
      refine o_nil ?_
      refine a_if rfl (fun h21 => ?_) (fun h21 => ?_)
      · refine a_seq ?_
        refine a_region ?_
        refine Pstep.go (st_assign rfl rfl) ?_
        refine o_nil ?_
        refine a_ret ?_
        exact ⟨_, [], [], res_of rfl, rfl, rfl, retI (hE.2 12 (by unfold rErr; rw [hgd, if_neg h19, if_pos (by simp only [Mx]; omega)]) (by decide)), rfl⟩
      · refine a_seq ?_
        refine a_region ?_
        refine Pstep.go (st_move rfl rfl) ?_
        refine Pstep.go (st_fieldP rfl fi70_0 rfl rfl rfl) ?_
        refine Pstep.go (st_loadPS rfl rfl rw47 rfl rfl rfl) ?_
        refine Pstep.go (st_look (setM ((p.ro.take k).map Roo.r)) (p.ro[k].r) (false) _ rfl rfl rfl mt214 kt47 za4 rfl rfl) ?_
        rw [setM_get]
        refine Pstep.go (st_assign rfl rfl) ?_
        refine o_nil ?_
        refine a_if rfl (fun h26 => ?_) (fun h26 => ?_)
        · refine a_seq ?_
          refine a_region ?_
          refine Pstep.go (st_assign rfl rfl) ?_
          refine o_nil ?_
          refine a_ret ?_
          exact ⟨_, [], [], res_of rfl, rfl, rfl, retI (hE.2 7 (by unfold rErr; rw [hgd, if_neg h19, if_neg (by simp only [Mx]; omega), if_pos h26]) (by decide)), rfl⟩
        · have hnot : p.ro[k].r ∉ (p.ro.take k).map Roo.r := h26
          refine a_skip ?_
          refine a_region ?_
          refine Pstep.go (st_move rfl rfl) ?_
          refine Pstep.go (st_fieldP rfl fi70_0 rfl rfl rfl) ?_
          refine Pstep.go (st_loadPS rfl rfl rw47 rfl rfl rfl) ?_
          refine Estep.go (st_mapU (setM ((p.ro.take k).map Roo.r)) (p.ro[k].r) (true) rfl rfl rfl mt214 kt47 rfl rfl) ?_
          refine o_nil ?_
          refine a_region ?_
          refine Pstep.go (st_add rfl rfl (wrapS (k + 1) (by omega)) rfl) ?_
          refine Pstep.go (st_move rfl rfl) ?_
          refine o_nil ?_
          exact ⟨k + 1, ⟨by show k + 1 ≤ _; omega, hE.1 (by unfold rErr; rw [hgd, if_neg h19, if_neg (by simp only [Mx]; omega), if_neg hnot])⟩, by show p.ro.length - (k + 1) < p.ro.length - k; omega, lep_of hF [2] rfl (by rw [tk_map hk1, ← setM_put hnot]; rfl) ⟨rfl, rfl, rfl, rfl, trivial⟩⟩
  · refine a_exit ?_
    refine a_seq ?_
    refine a_region ?_
    refine Pstep.go (st_assign rfl rfl) ?_
    refine o_nil ?_
    refine a_ret ?_
    exact ⟨_, [], [], res_of rfl, rfl, rfl, retI (by rw [hk, List.drop_of_length_le (by have h := h12; simp only [List.length_range]; omega)]; rfl), rfl⟩
end Go.Proofs.YtnamabifclidmaaGreat

/- Layer 28: a problem's check. -/
namespace Go.Proofs.YtnamabifclidmaaGreat
open Go.RowKit

theorem retB3 {a b : Bool} (h : a = b) : AV.d (.raw (.bool a)) = .d (.raw (.bool b)) := by rw [h]
theorem fidx_at {α : Type} {p : α → Bool} : ∀ {l : List α} {k : Nat} (hk : k < l.length), (∀ x ∈ l.take k, p x = false) → p l[k] = true → l.findIdx? p = some k
  | a :: l, 0, _, _, h => by simp at h; simp [List.findIdx?_cons, h]
  | a :: l, k + 1, hk, h0, h => by
    have h1 : p a = false := h0 a (by simp)
    have := fidx_at (l := l) (k := k) (by simpa using hk) (fun x hx => h0 x (by simp [hx])) (by simpa using h)
    simp [List.findIdx?_cons, h1, this]
theorem fidx_no {α : Type} {p : α → Bool} {l : List α} (h : ∀ x ∈ l, p x = false) : l.findIdx? p = none := by
  rw [List.findIdx?_eq_none_iff]; exact h
def ixF (p : Int → Bool) (l : List Int) : Int := match l.findIdx? p with
  | some k => k
  | none => -1
theorem ixF_nn {p : Int → Bool} {l : List Int} : 0 ≤ ixF p l ↔ l.any p = true := by
  unfold ixF
  cases h : l.findIdx? p with
  | none =>
    rw [List.findIdx?_eq_none_iff] at h
    simp only [List.any_eq_true]
    constructor
    · intro h'; omega
    · rintro ⟨x, hx, hp⟩; rw [h x hx] at hp; cases hp
  | some k =>
    have := List.findIdx?_isSome (xs := l) (p := p)
    rw [h] at this
    simp only [Option.isSome_some] at this
    simp [← this]
abbrev HM (S : List Int) : Hp := [(910, [.blk 107 [.map 911 0]]), (911, [mapC intD boolD (setM S)])]
def notIn (S : List Int) (x : Int) : Bool := !decide (x ∈ S)
set_option maxRecDepth 100000 in
theorem chk1_c (S : List Int) (x : Int) : ACalls Tryz.prog 115 [.d (intD x), .ptr 910 0 0] (HM S) fun r H' => r = .d (boolD (notIn S x)) ∧ H' = HM S := by
  refine a_enter Tryz.func115 rfl rfl Tryz.ntmps115 rfl rfl rfl fun F hF => ?_
  refine a_seq ?_
  refine a_region ?_
  refine Pstep.go (st_assign rfl rfl) ?_
  refine o_nil ?_
  refine a_seq ?_
  refine a_region ?_
  refine Pstep.go (st_loadP rfl rfl rfl on107 rfl) ?_
  refine Pstep.go (st_move rfl rfl) ?_
  refine Pstep.go (st_look (setM S) (x) (false) _ rfl rfl rfl mt107 kt3 za4 rfl rfl) ?_
  rw [setM_get]
  refine Pstep.go (st_notP rfl rfl) ?_
  refine Pstep.go (st_assign rfl rfl) ?_
  refine o_nil ?_
  refine a_ret ?_
  exact ⟨_, [910, 911], _, res_of rfl, rfl, rfl, by first | exact retB3 (by unfold notIn; simp) | rfl, rfl⟩
set_option maxRecDepth 100000 in
theorem indexF_c (S l : List Int) (hl : l.length ≤ 100000000) : ACalls Tryz.prog 95 [.d (.sl none (l.map intD)), .fn 115 [.ptr 910 0 0]] (HM S) fun r H' => r = .d (intD (ixF (notIn S) l)) ∧ H' = HM S := by
  refine a_enter Tryz.func95 rfl rfl Tryz.ntmps95 rfl rfl rfl fun F hF => ?_
  refine a_seq ?_
  refine a_region ?_
  refine Pstep.go (st_assign rfl rfl) ?_
  refine o_nil ?_
  refine a_seq ?_
  refine a_seq ?_
  refine a_region ?_
  refine Pstep.go (st_move rfl rfl) ?_
  refine Pstep.go (st_lenMap rfl Tryz.underlying26 rfl) ?_
  refine Pstep.go (st_move rfl rfl) ?_
  refine o_nil ?_
  refine a_block ?_
  refine a_loopP (α := Nat) (fun k => ⟨19, [(0, .d (.sl none (l.map intD))), (1, .fn 115 [.ptr 910 0 0]), (7, (.d (intD (l.length : Int)))), (8, (.d (intD (k : Int))))], HM S⟩) (fun k => k ≤ l.length ∧ ∀ x ∈ l.take k, notIn S x = false) (fun k => l.length - k) (0) (⟨Nat.zero_le _, by simp⟩) (lep_of hF [910, 911] rfl rfl ⟨rfl, rfl, rfl, rfl, trivial⟩) ?_
  rintro k ⟨hk0, hk⟩
  refine a_seq ?_
  refine a_region ?_
  refine Pstep.go (st_lss rfl rfl rfl) ?_
  refine o_nil ?_
  refine a_seq ?_
  refine a_if rfl (fun h9 => ?_) (fun h9 => ?_)
  · have hk1 : k < l.length := lt_cast h9
    refine a_skip ?_
    refine a_seq ?_
    refine a_block ?_
    refine a_seq ?_
    refine a_region ?_
    refine Pstep.go (st_move rfl rfl) ?_
    refine Pstep.go (st_assign rfl rfl) ?_
    refine o_nil ?_
    refine a_seq ?_
    refine a_region ?_
    refine Pstep.go (st_move rfl rfl) ?_
    refine Pstep.go (st_move rfl rfl) ?_
    refine Pstep.go (st_move rfl rfl) ?_
    refine Pstep.go (st_indexD (k) rfl rfl (rfl) (getm hk1) Tryz.underlying26 rfl sz3 rfl) ?_
    refine Pstep.go (st_loadD1 rfl rfl on3 rfl) ?_
    refine Estep.go (st_callVD (chk1_c S l[k]) rfl [910, 911] ⟨rfl, rfl, trivial⟩ rfl rfl rfl rfl rfl rfl rfl rfl rfl) ?_
    refine o_nil ?_
    refine a_cond rfl (fun h16 => ?_) (fun h16 => ?_)
    · refine a_seq ?_
      refine a_region ?_
      refine Pstep.go (st_move rfl rfl) ?_
      refine Pstep.go (st_assign rfl rfl) ?_
      refine o_nil ?_
      refine a_ret ?_
      exact ⟨_, [910, 911], _, res_of rfl, rfl, rfl, retI (by unfold ixF; rw [fidx_at hk1 hk (by simpa using h16)]), rfl⟩
    · refine a_skip ?_
      refine a_region ?_
      refine Pstep.go (st_add rfl rfl (wrapS (k + 1) (by omega)) rfl) ?_
      refine Pstep.go (st_move rfl rfl) ?_
      refine o_nil ?_
      exact ⟨k + 1, ⟨by show k + 1 ≤ _; omega, by rw [List.take_succ_eq_append_getElem hk1]; intro x hx; rcases List.mem_append.1 hx with hx | hx; exact hk x hx; rw [List.mem_singleton.1 hx]; simpa using h16⟩, by show l.length - (k + 1) < l.length - k; omega, lep_of hF [910, 911] rfl (rfl) ⟨rfl, rfl, rfl, rfl, trivial⟩⟩
  · refine a_exit ?_
    refine a_seq ?_
    refine a_region ?_
    refine Pstep.go (st_assign rfl rfl) ?_
    refine o_nil ?_
    refine a_ret ?_
    exact ⟨_, [910, 911], _, res_of rfl, rfl, rfl, retI (by unfold ixF; rw [fidx_no (fun x hx => hk x (by rw [List.take_of_length_le (by have h := h9; omega)]; exact hx))]), rfl⟩
set_option maxRecDepth 100000 in
theorem containsF_c (S l : List Int) (hl : l.length ≤ 100000000) : ACalls Tryz.prog 114 [.d (.sl none (l.map intD)), .fn 115 [.ptr 910 0 0]] (HM S) fun r H' => r = .d (boolD (l.any (notIn S))) ∧ H' = HM S := by
  refine a_enter Tryz.func114 rfl rfl Tryz.ntmps114 rfl rfl rfl fun F hF => ?_
  refine a_seq ?_
  refine a_region ?_
  refine Pstep.go (st_assign rfl rfl) ?_
  refine o_nil ?_
  refine a_seq ?_
  refine a_region ?_
  refine Pstep.go (st_move rfl rfl) ?_
  refine Pstep.go (st_move rfl rfl) ?_
  refine Estep.go (st_callD (indexF_c S l hl) rfl [910, 911] ⟨rfl, rfl, trivial⟩ rfl rfl rfl rfl rfl rfl rfl rfl rfl) ?_
  refine Pstep.go (st_geq rfl rfl rfl) ?_
  refine Pstep.go (st_assign rfl rfl) ?_
  refine o_nil ?_
  refine a_ret ?_
  exact ⟨_, [910, 911], _, res_of rfl, rfl, rfl, retB3 (by rw [Bool.eq_iff_iff, decide_eq_true_eq]; exact ixF_nn), rfl⟩
def itm0 : Itm := ⟨0, 0, 0, [], [], []⟩
def iErr (l : List Itm) (k : Nat) : Int := if checkE (l.getD k itm0) ≠ 0 then checkE (l.getD k itm0) else if (l.getD k itm0).id ∈ (l.take k).map Itm.id ∨ (l.getD k itm0).sq ∈ (l.take k).map Itm.sq then 7 else 0
def itemsE (l : List Itm) : Int := fst0 ((List.range l.length).map (iErr l))
def fErr (S : List Int) (i : Itm) : Int := if i.af.any (notIn S) = true then 9 else 0
def afterE (l : List Itm) : Int := fst0 (l.map (fErr (l.map Itm.id)))
def prbE (p : Prb) : Int := if 4096 < p.it.length ∨ 16384 < p.ro.length then 8 else fst0 [roomsE p.ro, itemsE p.it, afterE p.it]
theorem prbE_r {p : Prb} (h : ¬ (4096 < p.it.length ∨ 16384 < p.ro.length)) (h2 : roomsE p.ro ≠ 0) : roomsE p.ro = prbE p := by unfold prbE; rw [if_neg h]; simp only [fst0]; rw [if_neg h2]
theorem prbE_i {p : Prb} (h : ¬ (4096 < p.it.length ∨ 16384 < p.ro.length)) (h1 : roomsE p.ro = 0) {e : Int} (h2 : e = itemsE p.it) (h3 : e ≠ 0) : e = prbE p := by unfold prbE; rw [if_neg h]; simp only [fst0]; rw [if_pos h1, if_neg (by rw [← h2]; exact h3), h2]
theorem prbE_a {p : Prb} (h : ¬ (4096 < p.it.length ∨ 16384 < p.ro.length)) (h1 : roomsE p.ro = 0) (h2 : itemsE p.it = 0) {e : Int} (h3 : e = afterE p.it) : e = prbE p := by unfold prbE; rw [if_neg h]; simp only [fst0]; rw [if_pos h1, if_pos h2, h3]; split <;> simp_all
def PrbB (p : Prb) : Prop := p.ro.length ≤ 100000 ∧ p.it.length ≤ 100000 ∧ ∀ i ∈ p.it, i.po.length ≤ 100000 ∧ i.pa.length ≤ 100000 ∧ i.af.length ≤ 100000
set_option maxRecDepth 100000 in
theorem pcheck_p (p : Prb) (hb : PrbB p) : PCalls Tryz.prog 96 [.d (prbD p)] (intD (prbE p)) := by
  obtain ⟨g1, g2, g3⟩ := hb
  refine a_enter Tryz.func96 rfl rfl Tryz.ntmps96 rfl rfl rfl fun F hF => ?_
  refine a_seq ?_
  refine a_region ?_
  refine Estep.go (st_box 1 rfl rfl rfl rfl rfl rfl rfl) ?_
  refine Pstep.go (st_assign rfl rfl) ?_
  refine o_nil ?_
  refine a_seq ?_
  refine a_seq ?_
  refine a_region ?_
  refine Pstep.go (st_fieldP rfl fi35_1 rfl rfl rfl) ?_
  refine Pstep.go (st_loadP rfl rfl rfl on33 rfl) ?_
  refine Pstep.go (st_lenMap rfl Tryz.underlying33 rfl) ?_
  refine Pstep.go (st_gtr rfl rfl rfl) ?_
  refine Pstep.go (st_move rfl rfl) ?_
  refine o_splitP 15 rfl (fun h15 => ?_) (fun h15 => ?_)
  · refine o_pass rfl rfl rfl rfl ?_
    refine o_pass rfl rfl rfl rfl ?_
    refine o_pass rfl rfl rfl rfl ?_
    refine o_pass rfl rfl rfl rfl ?_
    refine Pstep.go (st_pickT rfl rfl rfl rfl) ?_
    refine o_nil ?_
    refine a_true rfl rfl ?_
    refine a_seq ?_
    refine a_region ?_
    refine Pstep.go (st_assign rfl rfl) ?_
    refine o_nil ?_
    refine a_ret ?_
    exact ⟨_, [], [], res_of rfl, rfl, rfl, retI (by unfold prbE; rw [if_pos (by omega)]), rfl⟩
  · refine o_run rfl rfl rfl ?_
    refine Pstep.go (st_fieldP rfl fi35_0 rfl rfl rfl) ?_
    refine o_run rfl rfl rfl ?_
    refine Pstep.go (st_loadP rfl rfl rfl on32 rfl) ?_
    refine o_run rfl rfl rfl ?_
    refine Pstep.go (st_lenMap rfl Tryz.underlying32 rfl) ?_
    refine o_run rfl rfl rfl ?_
    refine Pstep.go (st_gtr rfl rfl rfl) ?_
    refine Pstep.go (st_pickF rfl rfl rfl rfl) ?_
    refine o_nil ?_
    refine a_if rfl (fun h20 => ?_) (fun h20 => ?_)
    · refine a_seq ?_
      refine a_region ?_
      refine Pstep.go (st_assign rfl rfl) ?_
      refine o_nil ?_
      refine a_ret ?_
      exact ⟨_, [], [], res_of rfl, rfl, rfl, retI (by unfold prbE; rw [if_pos (by omega)]), rfl⟩
    · refine a_skip ?_
      refine a_seq ?_
      refine a_seq ?_
      have hsz : ¬ (4096 < p.it.length ∨ 16384 < p.ro.length) := by omega
      refine a_region ?_
      refine Pstep.go (st_loadPS rfl rfl rw35 rfl rfl rfl) ?_
      refine Pstep.go (st_callP (rooms_p p g1) rfl rfl) ?_
      refine Pstep.go (st_assign rfl rfl) ?_
      refine o_nil ?_
      refine a_seq ?_
      refine a_region ?_
      refine Pstep.go (st_move rfl rfl) ?_
      refine Pstep.go (st_neq rfl rfl rfl) ?_
      refine o_nil ?_
      refine a_if rfl (fun h24 => ?_) (fun h24 => ?_)
      · refine a_seq ?_
        refine a_region ?_
        refine Pstep.go (st_move rfl rfl) ?_
        refine Pstep.go (st_assign rfl rfl) ?_
        refine o_nil ?_
        refine a_ret ?_
        exact ⟨_, [], [], res_of rfl, rfl, rfl, retI (prbE_r hsz h24), rfl⟩
      · refine a_skip ?_
        refine a_seq ?_
        have hr0 : roomsE p.ro = 0 := by simpa using h24
        refine a_region ?_
        refine Estep.go (st_makeMap 2 rfl rfl rfl rfl) ?_
        refine Estep.go (st_makeMap 3 rfl rfl rfl rfl) ?_
        refine Estep.go (st_alloc 4 zl107 rfl rfl rfl rfl) ?_
        refine Estep.go (st_storeP rfl rfl rfl rfl rfl rfl rfl sz107) ?_
        refine Pstep.go (st_assign rfl rfl) ?_
        refine o_nil ?_
        refine a_seq ?_
        refine a_seq ?_
        refine a_region ?_
        refine Pstep.go (st_fieldP rfl fi35_1 rfl rfl rfl) ?_
        refine Pstep.go (st_loadP rfl rfl rfl on33 rfl) ?_
        refine Pstep.go (st_lenMap rfl Tryz.underlying33 rfl) ?_
        refine Pstep.go (st_move rfl rfl) ?_
        refine o_nil ?_
        refine a_block ?_
        refine a_loopP (α := Nat) (fun k => ⟨69, [(1, (.ptr 1 0 0)), (4, (.ptr 4 0 0)), (5, (.map 3 0)), (29, (.d (.sl none (p.it.map itmD)))), (30, (.d (intD (p.it.length : Int)))), (31, (.d (intD (k : Int))))], [(1, [.blk 35 [.d (.sl none (p.ro.map rooD)), .d (.sl none (p.it.map itmD))]]), (4, [.blk 107 [.map 2 0]]), (2, [mapC intD boolD (setM ((p.it.take k).map Itm.id))]), (3, [mapC intD boolD (setM ((p.it.take k).map Itm.sq))])]⟩) (fun k => k ≤ p.it.length ∧ itemsE p.it = fst0 (((List.range p.it.length).drop k).map (iErr p.it))) (fun k => p.it.length - k) (0) (⟨Nat.zero_le _, rfl⟩) (lep_of hF [1, 4, 2, 3] rfl rfl ⟨rfl, rfl, rfl, rfl, rfl, rfl, trivial⟩) ?_
        rintro k ⟨hk0, hk⟩
        refine a_seq ?_
        refine a_region ?_
        refine Pstep.go (st_lss rfl rfl rfl) ?_
        refine o_nil ?_
        refine a_seq ?_
        refine a_if rfl (fun h32 => ?_) (fun h32 => ?_)
        · have hk1 : k < p.it.length := lt_cast h32
          refine a_skip ?_
          refine a_seq ?_
          refine a_block ?_
          refine a_seq ?_
          refine a_region ?_
          have hE := range_cases hk1 hk
          have hgd := getD_at itm0 hk1
          have hgi := g3 _ (List.getElem_mem hk1)
          refine Pstep.go (st_indexD (k) rfl rfl (rfl) (getm hk1) Tryz.underlying33 rfl sz100 rfl) ?_
          refine Pstep.go (st_loadDS rfl rfl rw100 rfl) ?_
          refine Estep.go (st_alloc 5 zl100 rfl rfl rfl rfl) ?_
          refine Estep.go (st_storeP rfl rfl rfl rfl rfl rfl rfl sz100) ?_
          refine o_nil ?_
          refine a_seq ?_
          refine a_seq ?_
          refine a_region ?_
          refine Pstep.go (st_loadPS rfl rfl rw100 rfl rfl rfl) ?_
          refine Pstep.go (st_callP (check_p p.it[k] (by omega) (by omega) (by omega)) rfl rfl) ?_
          refine Pstep.go (st_assign rfl rfl) ?_
          refine o_nil ?_
          refine a_seq ?_
          refine a_region ?_
          refine Pstep.go (st_move rfl rfl) ?_
          refine Pstep.go (st_neq rfl rfl rfl) ?_
          refine o_nil ?_
          refine a_if rfl (fun h38 => ?_) (fun h38 => ?_)
          · refine a_seq ?_
            refine a_region ?_
            refine Pstep.go (st_move rfl rfl) ?_
            refine Pstep.go (st_assign rfl rfl) ?_
            refine o_nil ?_
            refine a_ret ?_
            exact ⟨_, [], [], res_of rfl, rfl, rfl, retI (prbE_i hsz hr0 (hE.2 _ (by unfold iErr; rw [hgd, if_pos h38]) h38) h38), rfl⟩
          · refine a_skip ?_
            refine a_seq ?_
            refine a_seq ?_
            refine a_region ?_
            refine Pstep.go (st_loadP rfl rfl rfl on107 rfl) ?_
            refine Pstep.go (st_fieldP rfl fi100_0 rfl rfl rfl) ?_
            refine Pstep.go (st_loadP rfl rfl rfl on3 rfl) ?_
            refine Pstep.go (st_look (setM ((p.it.take k).map Itm.id)) (p.it[k].id) (false) _ rfl rfl rfl mt107 kt3 za4 rfl rfl) ?_
            rw [setM_get]
            refine Pstep.go (st_move rfl rfl) ?_
            refine o_splitP 44 rfl (fun h44 => ?_) (fun h44 => ?_)
            · refine o_pass rfl rfl rfl rfl ?_
              refine o_pass rfl rfl rfl rfl ?_
              refine o_pass rfl rfl rfl rfl ?_
              refine o_pass rfl rfl rfl rfl ?_
              refine Pstep.go (st_pickT rfl rfl rfl rfl) ?_
              refine o_nil ?_
              refine a_true rfl rfl ?_
              refine a_seq ?_
              refine a_region ?_
              refine Pstep.go (st_assign rfl rfl) ?_
              refine o_nil ?_
              refine a_ret ?_
              exact ⟨_, [], [], res_of rfl, rfl, rfl, retI (prbE_i hsz hr0 (hE.2 7 (by unfold iErr; rw [hgd, if_neg h38, if_pos (by simp_all)]) (by decide)) (by decide)), rfl⟩
            · refine o_run rfl rfl rfl ?_
              refine Pstep.go (st_move rfl rfl) ?_
              refine o_run rfl rfl rfl ?_
              refine Pstep.go (st_fieldP rfl fi100_2 rfl rfl rfl) ?_
              refine o_run rfl rfl rfl ?_
              refine Pstep.go (st_loadP rfl rfl rfl on3 rfl) ?_
              refine o_run rfl rfl rfl ?_
              refine Pstep.go (st_look (setM ((p.it.take k).map Itm.sq)) (p.it[k].sq) (false) _ rfl rfl rfl mt107 kt3 za4 rfl rfl) ?_
              rw [setM_get]
              refine Pstep.go (st_pickF rfl rfl rfl rfl) ?_
              refine o_nil ?_
              refine a_if rfl (fun h49 => ?_) (fun h49 => ?_)
              · refine a_seq ?_
                refine a_region ?_
                refine Pstep.go (st_assign rfl rfl) ?_
                refine o_nil ?_
                refine a_ret ?_
                exact ⟨_, [], [], res_of rfl, rfl, rfl, retI (prbE_i hsz hr0 (hE.2 7 (by unfold iErr; rw [hgd, if_neg h38, if_pos (by simp_all)]) (by decide)) (by decide)), rfl⟩
              · refine a_skip ?_
                have n1 : p.it[k].id ∉ (p.it.take k).map Itm.id := by simp_all
                have n2 : p.it[k].sq ∉ (p.it.take k).map Itm.sq := by simp_all
                refine a_drawn [[], [], [1], [], [], [4], [0, 1, 2], [0, 1, 2, 3, 4, 5, 6]] mixed rfl ?_
                refine dws ?_
                refine d_pure [4] [4, 2] rfl rfl (fun _ => gp_none (st_loadP rfl rfl rfl on107 rfl)) ?_
                refine d_pure [7] [] rfl rfl (fun _ => gp_none (st_fieldP rfl fi100_0 rfl rfl rfl)) ?_
                refine d_pure [51] [5] rfl rfl (fun _ => gp_none (st_loadP rfl rfl rfl on3 rfl)) ?_
                refine d_pure [5] [] rfl rfl (fun _ => gp_none (st_move rfl rfl)) ?_
                refine d_pure [7] [] rfl rfl (fun _ => gp_none (st_fieldP rfl fi100_2 rfl rfl rfl)) ?_
                refine d_pure [54] [5] rfl rfl (fun _ => gp_none (st_loadP rfl rfl rfl on3 rfl)) ?_
                refine d_eff [50, 52] [2] [] rfl rfl (fun _ => ge_none (st_mapU (setM ((p.it.take k).map Itm.id)) (p.it[k].id) (true) rfl rfl rfl mt107 kt3 rfl rfl)) (.inl ⟨rfl, rfl⟩) rfl rfl rfl rfl rfl ?_
                refine dwc 7 rfl rfl rfl ?_
                refine dw1 8 rfl rfl ?_
                refine Estep.go (st_mapU (setM ((p.it.take k).map Itm.sq)) (p.it[k].sq) (true) rfl rfl rfl mt107 kt3 rfl rfl) ?_
                refine o_nil ⟨rfl, ?_⟩
                refine dwe ?_
                refine a_region ?_
                refine Pstep.go (st_add rfl rfl (wrapS (k + 1) (by omega)) rfl) ?_
                refine Pstep.go (st_move rfl rfl) ?_
                refine o_nil ?_
                exact ⟨k + 1, ⟨by show k + 1 ≤ _; omega, hE.1 (by unfold iErr; rw [hgd, if_neg h38, if_neg (by rintro (h | h); exact n1 h; exact n2 h)])⟩, by show p.it.length - (k + 1) < p.it.length - k; omega, lep_of hF [1, 4, 2, 3] rfl (by rw [tk_map hk1, tk_map hk1, ← setM_put n1, ← setM_put n2]; rfl) ⟨rfl, rfl, rfl, rfl, rfl, rfl, trivial⟩⟩
        · refine a_exit ?_
          refine a_seq ?_
          refine a_seq ?_
          have hi0 : itemsE p.it = 0 := by rw [hk, List.drop_of_length_le (by have h := h32; simp only [List.length_range]; omega)]; rfl
          have hfull : p.it.take k = p.it := List.take_of_length_le (by have h := h32; omega)
          rw [hfull]
          refine a_region ?_
          refine Pstep.go (st_fieldP rfl fi35_1 rfl rfl rfl) ?_
          refine Pstep.go (st_loadP rfl rfl rfl on33 rfl) ?_
          refine Pstep.go (st_lenMap rfl Tryz.underlying33 rfl) ?_
          refine Pstep.go (st_move rfl rfl) ?_
          refine o_nil ?_
          refine a_block ?_
          refine a_loopP (α := Nat) (fun k => ⟨69, [(4, (.ptr 4 0 0)), (58, (.d (.sl none (p.it.map itmD)))), (59, (.d (intD (p.it.length : Int)))), (60, (.d (intD (k : Int))))], [(4, [.blk 107 [.map 2 0]]), (2, [mapC intD boolD (setM (p.it.map Itm.id))])]⟩) (fun k => k ≤ p.it.length ∧ afterE p.it = fst0 ((p.it.drop k).map (fErr (p.it.map Itm.id)))) (fun k => p.it.length - k) (0) (⟨Nat.zero_le _, rfl⟩) (lep_of hF [4, 2] rfl rfl ⟨rfl, rfl, rfl, rfl, trivial⟩) ?_
          rintro k ⟨hk0, hk⟩
          refine a_seq ?_
          refine a_region ?_
          refine Pstep.go (st_lss rfl rfl rfl) ?_
          refine o_nil ?_
          refine a_seq ?_
          refine a_if rfl (fun h61 => ?_) (fun h61 => ?_)
          · have hk1 : k < p.it.length := lt_cast h61
            refine a_skip ?_
            refine a_seq ?_
            refine a_block ?_
            refine a_seq ?_
            refine a_region ?_
            have hE := fst0_cases hk1 hk
            have hgi := g3 _ (List.getElem_mem hk1)
            refine Pstep.go (st_indexD (k) rfl rfl (rfl) (getm hk1) Tryz.underlying33 rfl sz100 rfl) ?_
            refine Pstep.go (st_loadDS rfl rfl rw100 rfl) ?_
            refine Estep.go (st_alloc 6 zl100 rfl rfl rfl rfl) ?_
            refine Estep.go (st_storeP rfl rfl rfl rfl rfl rfl rfl sz100) ?_
            refine o_nil ?_
            refine a_seq ?_
            refine a_region ?_
            refine Pstep.go (st_fieldP rfl fi100_5 rfl rfl rfl) ?_
            refine Pstep.go (st_loadP rfl rfl rfl on26 rfl) ?_
            refine Pstep.go (st_makeFunc rfl rfl) ?_
            refine Estep.go (st_callD ((containsF_c (p.it.map Itm.id) p.it[k].af (by omega)).by [(910, 4), (911, 2)] rfl) rfl [4, 2] ⟨rfl, rfl, trivial⟩ rfl rfl rfl rfl rfl rfl rfl rfl rfl) ?_
            refine o_nil ?_
            refine a_cond rfl (fun h67 => ?_) (fun h67 => ?_)
            · refine a_seq ?_
              refine a_region ?_
              refine Pstep.go (st_assign rfl rfl) ?_
              refine o_nil ?_
              refine a_ret ?_
              exact ⟨_, [], [], res_of rfl, rfl, rfl, retI (prbE_a hsz hr0 hi0 (hE.2 9 (by unfold fErr; rw [if_pos (by simpa using h67)]) (by decide))), rfl⟩
            · refine a_skip ?_
              refine a_region ?_
              refine Pstep.go (st_add rfl rfl (wrapS (k + 1) (by omega)) rfl) ?_
              refine Pstep.go (st_move rfl rfl) ?_
              refine o_nil ?_
              exact ⟨k + 1, ⟨by show k + 1 ≤ _; omega, hE.1 (by unfold fErr; rw [if_neg (by simpa using h67)])⟩, by show p.it.length - (k + 1) < p.it.length - k; omega, lep_of hF [4, 2] rfl (rfl) ⟨rfl, rfl, rfl, rfl, trivial⟩⟩
          · refine a_exit ?_
            refine a_seq ?_
            refine a_region ?_
            refine Pstep.go (st_assign rfl rfl) ?_
            refine o_nil ?_
            refine a_ret ?_
            exact ⟨_, [], [], res_of rfl, rfl, rfl, retI (prbE_a hsz hr0 hi0 (by rw [hk, fst0_end (by have h := h61; omega)])), rfl⟩
end Go.Proofs.YtnamabifclidmaaGreat

/- Layer 28: the reference's check of a problem; conversion of problems. -/
namespace Go.Proofs.YtnamabifclidmaaGreat
open Go.RowKit

abbrev prbB2 (T : TypeId) (p : Prb) : AObj := .blk T [.d (.sl none (p.ro.map rooD)), .d (.sl none (p.it.map itmD))]
theorem mem_tk {α β : Type} {l : List α} {f : α → β} {m k : Nat} (hk : k < l.length) (hm : m < k) {b : β} (h : f l[m] = b) : b ∈ (l.take k).map f := by
  refine List.mem_map.2 ⟨l[m], ?_, h⟩
  rw [List.mem_take_iff_getElem]
  exact ⟨m, by omega, rfl⟩
theorem nmem_next {α β : Type} {l : List α} {f : α → β} {m : Nat} (hm : m < l.length) {b : β} (h : b ∉ (l.take m).map f) (h2 : f l[m] ≠ b) : b ∉ (l.take (m + 1)).map f := by
  rw [tk_map hm, List.mem_append, List.mem_singleton]
  rintro (h3 | h3)
  · exact h h3
  · exact h2 h3.symm
theorem ixI_nn {x : Int} {l : List Int} (h : 0 ≤ ixI x l) : x ∈ l := by
  unfold ixI at h
  split at h
  · assumption
  · omega
theorem ixI_neg {x : Int} {l : List Int} (h : ixI x l < 0) : x ∉ l := by
  unfold ixI at h
  split at h
  · omega
  · assumption
set_option maxRecDepth 100000 in
theorem find_p (p : Prb) (id : Int) (hl : p.it.length ≤ 100000) : PCalls Tryz.prog 48 [.d (prbD p), .d (intD id)] (intD (ixI id (p.it.map Itm.id))) := by
  refine a_enter Tryz.func48 rfl rfl Tryz.ntmps48 rfl rfl rfl fun F hF => ?_
  refine a_seq ?_
  refine a_region ?_
  refine Estep.go (st_box 1 rfl rfl rfl rfl rfl rfl rfl) ?_
  refine Pstep.go (st_assign rfl rfl) ?_
  refine o_nil ?_
  refine a_seq ?_
  refine a_seq ?_
  refine a_region ?_
  refine Pstep.go (st_assign rfl rfl) ?_
  refine o_nil ?_
  refine a_block ?_
  refine a_loopP (α := Nat) (fun k => ⟨22, [(1, .d (intD id)), (2, (.ptr 1 0 0)), (5, (.d (intD (k : Int))))], [(1, [prbB2 25 p])]⟩) (fun k => k ≤ p.it.length ∧ id ∉ (p.it.take k).map Itm.id) (fun k => p.it.length - k) (0) (⟨Nat.zero_le _, by simp⟩) (lep_of hF [1] rfl rfl ⟨rfl, rfl, rfl, trivial⟩) ?_
  rintro k ⟨hk0, hk⟩
  refine a_seq ?_
  refine a_seq ?_
  refine a_region ?_
  refine Pstep.go (st_move rfl rfl) ?_
  refine Pstep.go (st_fieldP rfl fi25_1 rfl rfl rfl) ?_
  refine Pstep.go (st_loadP rfl rfl rfl on23 rfl) ?_
  refine Pstep.go (st_lenMap rfl Tryz.underlying23 rfl) ?_
  refine Pstep.go (st_lss rfl rfl rfl) ?_
  refine o_nil ?_
  refine a_if rfl (fun h10 => ?_) (fun h10 => ?_)
  · have hk1 : k < p.it.length := lt_cast h10
    refine a_skip ?_
    refine a_seq ?_
    refine a_block ?_
    refine a_seq ?_
    refine a_region ?_
    refine Pstep.go (st_fieldP rfl fi25_1 rfl rfl rfl) ?_
    refine Pstep.go (st_loadP rfl rfl rfl on23 rfl) ?_
    refine Pstep.go (st_move rfl rfl) ?_
    refine Pstep.go (st_indexD (k) rfl rfl (rfl) (getm hk1) Tryz.underlying23 rfl sz80 rfl) ?_
    refine Pstep.go (st_fieldF1 rfl fi80_0 rfl rfl rfl) ?_
    refine Pstep.go (st_loadD1 rfl rfl on3 rfl) ?_
    refine Pstep.go (st_move rfl rfl) ?_
    refine Pstep.go (st_eql rfl rfl rfl) ?_
    refine o_nil ?_
    refine a_if rfl (fun h20 => ?_) (fun h20 => ?_)
    · refine a_seq ?_
      refine a_region ?_
      refine Pstep.go (st_move rfl rfl) ?_
      refine Pstep.go (st_assign rfl rfl) ?_
      refine o_nil ?_
      refine a_ret ?_
      exact ⟨_, [], [], res_of rfl, rfl, rfl, retI (idxOf_at (l := p.it.map Itm.id) (by simpa using hk1) (by rw [← List.map_take]; exact hk) (by rw [List.getElem_map]; exact h20.symm)).symm, rfl⟩
    · refine a_skip ?_
      refine a_region ?_
      refine Pstep.go (st_move rfl rfl) ?_
      refine Pstep.go (st_add rfl rfl (wrapS (k + 1) (by omega)) rfl) ?_
      refine Pstep.go (st_assign rfl rfl) ?_
      refine o_nil ?_
      exact ⟨k + 1, ⟨by show k + 1 ≤ _; omega, nmem_next hk1 hk h20⟩, by show p.it.length - (k + 1) < p.it.length - k; omega, lep_of hF [1] rfl (rfl) ⟨rfl, rfl, rfl, trivial⟩⟩
  · refine a_exit ?_
    refine a_seq ?_
    refine a_region ?_
    refine Pstep.go (st_assign rfl rfl) ?_
    refine o_nil ?_
    refine a_ret ?_
    exact ⟨_, [], [], res_of rfl, rfl, rfl, retI (by unfold ixI; rw [if_neg (by rw [List.take_of_length_le (by have h := h10; omega)] at hk; exact hk)]), rfl⟩
def Sml (p : Prb) : Prop := p.it.length ≤ 12 ∧ p.ro.length ≤ 24 ∧ ∀ i ∈ p.it, i.po.length ≤ 12 ∧ i.pa.length ≤ 12 ∧ i.af.length ≤ 12
instance (p : Prb) : Decidable (Sml p) := inferInstanceAs (Decidable (_ ∧ _ ∧ ∀ i ∈ p.it, _))
set_option maxRecDepth 100000 in
theorem small_p (p : Prb) : PCalls Tryz.prog 13 [.d (prbD p)] (boolD (decide (Sml p))) := by
  refine a_enter Tryz.func13 rfl rfl Tryz.ntmps13 rfl rfl rfl fun F hF => ?_
  refine a_seq ?_
  refine a_region ?_
  refine Estep.go (st_box 1 rfl rfl rfl rfl rfl rfl rfl) ?_
  refine Pstep.go (st_assign rfl rfl) ?_
  refine o_nil ?_
  refine a_seq ?_
  refine a_seq ?_
  refine a_region ?_
  refine Pstep.go (st_fieldP rfl fi25_1 rfl rfl rfl) ?_
  refine Pstep.go (st_loadP rfl rfl rfl on23 rfl) ?_
  refine Pstep.go (st_lenMap rfl Tryz.underlying23 rfl) ?_
  refine Pstep.go (st_gtr rfl rfl rfl) ?_
  refine Pstep.go (st_move rfl rfl) ?_
  refine o_splitP 8 rfl (fun h8 => ?_) (fun h8 => ?_)
  · refine o_pass rfl rfl rfl rfl ?_
    refine o_pass rfl rfl rfl rfl ?_
    refine o_pass rfl rfl rfl rfl ?_
    refine o_pass rfl rfl rfl rfl ?_
    refine Pstep.go (st_pickT rfl rfl rfl rfl) ?_
    refine o_nil ?_
    refine a_true rfl rfl ?_
    refine a_seq ?_
    refine a_region ?_
    refine Pstep.go (st_assign rfl rfl) ?_
    refine o_nil ?_
    refine a_ret ?_
    exact ⟨_, [], [], res_of rfl, rfl, rfl, retF (fun h => by have h1 := h.1; have h2 := h.2.1; omega), rfl⟩
  · refine o_run rfl rfl rfl ?_
    refine Pstep.go (st_fieldP rfl fi25_0 rfl rfl rfl) ?_
    refine o_run rfl rfl rfl ?_
    refine Pstep.go (st_loadP rfl rfl rfl on22 rfl) ?_
    refine o_run rfl rfl rfl ?_
    refine Pstep.go (st_lenMap rfl Tryz.underlying22 rfl) ?_
    refine o_run rfl rfl rfl ?_
    refine Pstep.go (st_gtr rfl rfl rfl) ?_
    refine Pstep.go (st_pickF rfl rfl rfl rfl) ?_
    refine o_nil ?_
    refine a_if rfl (fun h13 => ?_) (fun h13 => ?_)
    · refine a_seq ?_
      refine a_region ?_
      refine Pstep.go (st_assign rfl rfl) ?_
      refine o_nil ?_
      refine a_ret ?_
      exact ⟨_, [], [], res_of rfl, rfl, rfl, retF (fun h => by have h1 := h.1; have h2 := h.2.1; omega), rfl⟩
    · refine a_skip ?_
      refine a_seq ?_
      refine a_seq ?_
      refine a_region ?_
      refine Pstep.go (st_assign rfl rfl) ?_
      refine o_nil ?_
      refine a_block ?_
      refine a_loopP (α := Nat) (fun k => ⟨49, [(1, (.ptr 1 0 0)), (3, (.d (intD (k : Int))))], [(1, [prbB2 25 p])]⟩) (fun k => k ≤ p.it.length ∧ ∀ i ∈ p.it.take k, i.po.length ≤ 12 ∧ i.pa.length ≤ 12 ∧ i.af.length ≤ 12) (fun k => p.it.length - k) (0) (⟨Nat.zero_le _, by simp⟩) (lep_of hF [1] rfl rfl ⟨rfl, rfl, trivial⟩) ?_
      rintro k ⟨hk0, hk⟩
      refine a_seq ?_
      refine a_seq ?_
      refine a_region ?_
      refine Pstep.go (st_move rfl rfl) ?_
      refine Pstep.go (st_fieldP rfl fi25_1 rfl rfl rfl) ?_
      refine Pstep.go (st_loadP rfl rfl rfl on23 rfl) ?_
      refine Pstep.go (st_lenMap rfl Tryz.underlying23 rfl) ?_
      refine Pstep.go (st_lss rfl rfl rfl) ?_
      refine o_nil ?_
      refine a_if rfl (fun h18 => ?_) (fun h18 => ?_)
      · have hk1 : k < p.it.length := lt_cast h18
        refine a_skip ?_
        refine a_seq ?_
        refine a_block ?_
        refine a_seq ?_
        refine a_region ?_
        refine Pstep.go (st_fieldP rfl fi25_1 rfl rfl rfl) ?_
        refine Pstep.go (st_loadP rfl rfl rfl on23 rfl) ?_
        refine Pstep.go (st_move rfl rfl) ?_
        refine Pstep.go (st_indexD (k) rfl rfl (rfl) (getm hk1) Tryz.underlying23 rfl sz80 rfl) ?_
        refine Pstep.go (st_fieldF1 rfl fi80_3 rfl rfl rfl) ?_
        refine Pstep.go (st_loadD1 rfl rfl on77 rfl) ?_
        refine Pstep.go (st_lenMap rfl Tryz.underlying77 rfl) ?_
        refine Pstep.go (st_gtr rfl rfl rfl) ?_
        refine Pstep.go (st_move rfl rfl) ?_
        refine o_splitP 29 rfl (fun h29 => ?_) (fun h29 => ?_)
        · refine o_pass rfl rfl rfl rfl ?_
          refine o_pass rfl rfl rfl rfl ?_
          refine o_pass rfl rfl rfl rfl ?_
          refine o_pass rfl rfl rfl rfl ?_
          refine o_pass rfl rfl rfl rfl ?_
          refine o_pass rfl rfl rfl rfl ?_
          refine o_pass rfl rfl rfl rfl ?_
          refine o_pass rfl rfl rfl rfl ?_
          refine Pstep.go (st_pickT rfl rfl rfl rfl) ?_
          refine Pstep.go (st_move rfl rfl) ?_
          refine o_pass rfl rfl rfl rfl ?_
          refine o_pass rfl rfl rfl rfl ?_
          refine o_pass rfl rfl rfl rfl ?_
          refine o_pass rfl rfl rfl rfl ?_
          refine o_pass rfl rfl rfl rfl ?_
          refine o_pass rfl rfl rfl rfl ?_
          refine o_pass rfl rfl rfl rfl ?_
          refine o_pass rfl rfl rfl rfl ?_
          refine Pstep.go (st_pickT rfl rfl rfl rfl) ?_
          refine o_nil ?_
          refine a_true rfl rfl ?_
          refine a_seq ?_
          refine a_region ?_
          refine Pstep.go (st_assign rfl rfl) ?_
          refine o_nil ?_
          refine a_ret ?_
          exact ⟨_, [], [], res_of rfl, rfl, rfl, retF (fun h => by have h1 := h.2.2 _ (List.getElem_mem hk1); omega), rfl⟩
        · refine o_run rfl rfl rfl ?_
          refine Pstep.go (st_fieldP rfl fi25_1 rfl rfl rfl) ?_
          refine o_run rfl rfl rfl ?_
          refine Pstep.go (st_loadP rfl rfl rfl on23 rfl) ?_
          refine o_run rfl rfl rfl ?_
          refine Pstep.go (st_move rfl rfl) ?_
          refine o_run rfl rfl rfl ?_
          refine Pstep.go (st_indexD (k) rfl rfl (rfl) (getm hk1) Tryz.underlying23 rfl sz80 rfl) ?_
          refine o_run rfl rfl rfl ?_
          refine Pstep.go (st_fieldF1 rfl fi80_4 rfl rfl rfl) ?_
          refine o_run rfl rfl rfl ?_
          refine Pstep.go (st_loadD1 rfl rfl on78 rfl) ?_
          refine o_run rfl rfl rfl ?_
          refine Pstep.go (st_lenMap rfl Tryz.underlying78 rfl) ?_
          refine o_run rfl rfl rfl ?_
          refine Pstep.go (st_gtr rfl rfl rfl) ?_
          refine Pstep.go (st_pickF rfl rfl rfl rfl) ?_
          refine Pstep.go (st_move rfl rfl) ?_
          refine o_splitP 39 rfl (fun h39 => ?_) (fun h39 => ?_)
          · refine o_pass rfl rfl rfl rfl ?_
            refine o_pass rfl rfl rfl rfl ?_
            refine o_pass rfl rfl rfl rfl ?_
            refine o_pass rfl rfl rfl rfl ?_
            refine o_pass rfl rfl rfl rfl ?_
            refine o_pass rfl rfl rfl rfl ?_
            refine o_pass rfl rfl rfl rfl ?_
            refine o_pass rfl rfl rfl rfl ?_
            refine Pstep.go (st_pickT rfl rfl rfl rfl) ?_
            refine o_nil ?_
            refine a_true rfl rfl ?_
            refine a_seq ?_
            refine a_region ?_
            refine Pstep.go (st_assign rfl rfl) ?_
            refine o_nil ?_
            refine a_ret ?_
            exact ⟨_, [], [], res_of rfl, rfl, rfl, retF (fun h => by have h1 := h.2.2 _ (List.getElem_mem hk1); omega), rfl⟩
          · refine o_run rfl rfl rfl ?_
            refine Pstep.go (st_fieldP rfl fi25_1 rfl rfl rfl) ?_
            refine o_run rfl rfl rfl ?_
            refine Pstep.go (st_loadP rfl rfl rfl on23 rfl) ?_
            refine o_run rfl rfl rfl ?_
            refine Pstep.go (st_move rfl rfl) ?_
            refine o_run rfl rfl rfl ?_
            refine Pstep.go (st_indexD (k) rfl rfl (rfl) (getm hk1) Tryz.underlying23 rfl sz80 rfl) ?_
            refine o_run rfl rfl rfl ?_
            refine Pstep.go (st_fieldF1 rfl fi80_5 rfl rfl rfl) ?_
            refine o_run rfl rfl rfl ?_
            refine Pstep.go (st_loadD1 rfl rfl on26 rfl) ?_
            refine o_run rfl rfl rfl ?_
            refine Pstep.go (st_lenMap rfl Tryz.underlying26 rfl) ?_
            refine o_run rfl rfl rfl ?_
            refine Pstep.go (st_gtr rfl rfl rfl) ?_
            refine Pstep.go (st_pickF rfl rfl rfl rfl) ?_
            refine o_nil ?_
            refine a_if rfl (fun h48 => ?_) (fun h48 => ?_)
            · refine a_seq ?_
              refine a_region ?_
              refine Pstep.go (st_assign rfl rfl) ?_
              refine o_nil ?_
              refine a_ret ?_
              exact ⟨_, [], [], res_of rfl, rfl, rfl, retF (fun h => by have h1 := h.2.2 _ (List.getElem_mem hk1); omega), rfl⟩
            · refine a_skip ?_
              refine a_region ?_
              refine Pstep.go (st_move rfl rfl) ?_
              refine Pstep.go (st_add rfl rfl (wrapS (k + 1) (by omega)) rfl) ?_
              refine Pstep.go (st_assign rfl rfl) ?_
              refine o_nil ?_
              exact ⟨k + 1, ⟨by show k + 1 ≤ _; omega, by rw [List.take_succ_eq_append_getElem hk1]; intro i hi; rcases List.mem_append.1 hi with hi | hi; exact hk i hi; rw [List.mem_singleton.1 hi]; omega⟩, by show p.it.length - (k + 1) < p.it.length - k; omega, lep_of hF [1] rfl (rfl) ⟨rfl, rfl, trivial⟩⟩
      · refine a_exit ?_
        refine a_seq ?_
        refine a_region ?_
        refine Pstep.go (st_assign rfl rfl) ?_
        refine o_nil ?_
        refine a_ret ?_
        exact ⟨_, [], [], res_of rfl, rfl, rfl, retT ⟨by omega, by omega, fun i hi => hk i (by rw [List.take_of_length_le (by have h := h18; omega)]; exact hi)⟩, rfl⟩
set_option maxRecDepth 100000 in
theorem refpcheck_p (p : Prb) (g1 : p.ro.length ≤ 1000) (g2 : p.it.length ≤ 1000) (g3 : ∀ i ∈ p.it, i.po.length ≤ 1000 ∧ i.pa.length ≤ 1000 ∧ i.af.length ≤ 1000) : PCalls Tryz.prog 26 [.d (prbD p)] (intD (prbE p)) := by
  refine a_enter Tryz.func26 rfl rfl Tryz.ntmps26 rfl rfl rfl fun F hF => ?_
  refine a_seq ?_
  refine a_region ?_
  refine Estep.go (st_box 1 rfl rfl rfl rfl rfl rfl rfl) ?_
  refine Pstep.go (st_assign rfl rfl) ?_
  refine o_nil ?_
  refine a_seq ?_
  refine a_seq ?_
  refine a_region ?_
  refine Pstep.go (st_fieldP rfl fi25_1 rfl rfl rfl) ?_
  refine Pstep.go (st_loadP rfl rfl rfl on23 rfl) ?_
  refine Pstep.go (st_lenMap rfl Tryz.underlying23 rfl) ?_
  refine Pstep.go (st_gtr rfl rfl rfl) ?_
  refine Pstep.go (st_move rfl rfl) ?_
  refine o_splitP 15 rfl (fun h15 => ?_) (fun h15 => ?_)
  · refine o_pass rfl rfl rfl rfl ?_
    refine o_pass rfl rfl rfl rfl ?_
    refine o_pass rfl rfl rfl rfl ?_
    refine o_pass rfl rfl rfl rfl ?_
    refine Pstep.go (st_pickT rfl rfl rfl rfl) ?_
    refine o_nil ?_
    refine a_true rfl rfl ?_
    refine a_seq ?_
    refine a_region ?_
    refine Pstep.go (st_assign rfl rfl) ?_
    refine o_nil ?_
    refine a_ret ?_
    exact ⟨_, [], [], res_of rfl, rfl, rfl, retI (by unfold prbE; rw [if_pos (by omega)]), rfl⟩
  · refine o_run rfl rfl rfl ?_
    refine Pstep.go (st_fieldP rfl fi25_0 rfl rfl rfl) ?_
    refine o_run rfl rfl rfl ?_
    refine Pstep.go (st_loadP rfl rfl rfl on22 rfl) ?_
    refine o_run rfl rfl rfl ?_
    refine Pstep.go (st_lenMap rfl Tryz.underlying22 rfl) ?_
    refine o_run rfl rfl rfl ?_
    refine Pstep.go (st_gtr rfl rfl rfl) ?_
    refine Pstep.go (st_pickF rfl rfl rfl rfl) ?_
    refine o_nil ?_
    refine a_if rfl (fun h20 => ?_) (fun h20 => ?_)
    · refine a_seq ?_
      refine a_region ?_
      refine Pstep.go (st_assign rfl rfl) ?_
      refine o_nil ?_
      refine a_ret ?_
      exact ⟨_, [], [], res_of rfl, rfl, rfl, retI (by unfold prbE; rw [if_pos (by omega)]), rfl⟩
    · refine a_skip ?_
      refine a_seq ?_
      refine a_seq ?_
      have hsz : ¬ (4096 < p.it.length ∨ 16384 < p.ro.length) := by omega
      refine a_region ?_
      refine Pstep.go (st_assign rfl rfl) ?_
      refine o_nil ?_
      refine a_block ?_
      refine a_loopP (α := Nat) (fun k => ⟨151, [(1, (.ptr 1 0 0)), (3, (.d (intD (k : Int))))], [(1, [prbB2 25 p])]⟩) (fun k => k ≤ p.ro.length ∧ roomsE p.ro = fst0 (((List.range p.ro.length).drop k).map (rErr p.ro))) (fun k => p.ro.length - k) (0) (⟨Nat.zero_le _, rfl⟩) (lep_of hF [1] rfl rfl ⟨rfl, rfl, trivial⟩) ?_
      rintro k ⟨hk0, hk⟩
      refine a_seq ?_
      refine a_seq ?_
      refine a_region ?_
      refine Pstep.go (st_move rfl rfl) ?_
      refine Pstep.go (st_fieldP rfl fi25_0 rfl rfl rfl) ?_
      refine Pstep.go (st_loadP rfl rfl rfl on22 rfl) ?_
      refine Pstep.go (st_lenMap rfl Tryz.underlying22 rfl) ?_
      refine Pstep.go (st_lss rfl rfl rfl) ?_
      refine o_nil ?_
      refine a_if rfl (fun h25 => ?_) (fun h25 => ?_)
      · have hk1 : k < p.ro.length := lt_cast h25
        refine a_skip ?_
        refine a_seq ?_
        refine a_block ?_
        refine a_seq ?_
        refine a_seq ?_
        refine a_region ?_
        have hE := range_cases hk1 hk
        have hgd := getD_at roo0 hk1
        refine Pstep.go (st_fieldP rfl fi25_0 rfl rfl rfl) ?_
        refine Pstep.go (st_loadP rfl rfl rfl on22 rfl) ?_
        refine Pstep.go (st_move rfl rfl) ?_
        refine Pstep.go (st_indexD (k) rfl rfl (rfl) (getm hk1) Tryz.underlying22 rfl sz104 rfl) ?_
        refine Pstep.go (st_fieldFS rfl fi104_0 rfl rfl rfl) ?_
        refine Pstep.go (st_loadDS rfl rfl rw52 rfl) ?_
        refine Pstep.go (st_callP (refvalid_p p.ro[k].r) rfl rfl) ?_
        refine Pstep.go (st_assign rfl rfl) ?_
        refine o_nil ?_
        refine a_seq ?_
        refine a_region ?_
        refine Pstep.go (st_move rfl rfl) ?_
        refine Pstep.go (st_neq rfl rfl rfl) ?_
        refine o_nil ?_
        refine a_if rfl (fun h36 => ?_) (fun h36 => ?_)
        · refine a_seq ?_
          refine a_region ?_
          refine Pstep.go (st_move rfl rfl) ?_
          refine Pstep.go (st_assign rfl rfl) ?_
          refine o_nil ?_
          refine a_ret ?_
          exact ⟨_, [], [], res_of rfl, rfl, rfl, retI (by have h := hE.2 _ (by unfold rErr; rw [hgd, if_pos h36]) h36; rw [h]; exact prbE_r hsz (by rw [← h]; exact h36)), rfl⟩
        · refine a_skip ?_
          refine a_seq ?_
          refine a_seq ?_
          refine a_region ?_
          refine Pstep.go (st_fieldP rfl fi25_0 rfl rfl rfl) ?_
          refine Pstep.go (st_loadP rfl rfl rfl on22 rfl) ?_
          refine Pstep.go (st_move rfl rfl) ?_
          refine Pstep.go (st_indexD (k) rfl rfl (rfl) (getm hk1) Tryz.underlying22 rfl sz104 rfl) ?_
          refine Pstep.go (st_fieldF1 rfl fi104_1 rfl rfl rfl) ?_
          refine Pstep.go (st_loadD1 rfl rfl on2 rfl) ?_
          refine Pstep.go (st_lss rfl rfl rfl) ?_
          refine Pstep.go (st_move rfl rfl) ?_
          refine o_splitP 45 rfl (fun h45 => ?_) (fun h45 => ?_)
          · refine o_pass rfl rfl rfl rfl ?_
            refine o_pass rfl rfl rfl rfl ?_
            refine o_pass rfl rfl rfl rfl ?_
            refine o_pass rfl rfl rfl rfl ?_
            refine o_pass rfl rfl rfl rfl ?_
            refine o_pass rfl rfl rfl rfl ?_
            refine o_pass rfl rfl rfl rfl ?_
            refine Pstep.go (st_pickT rfl rfl rfl rfl) ?_
            refine o_nil ?_
            refine a_true rfl rfl ?_
            refine a_seq ?_
            refine a_region ?_
            refine Pstep.go (st_assign rfl rfl) ?_
            refine o_nil ?_
            refine a_ret ?_
            exact ⟨_, [], [], res_of rfl, rfl, rfl, retI (by have h := hE.2 12 (by unfold rErr; rw [hgd, if_neg h36, if_pos (by simp only [Mx]; omega)]) (by decide); rw [h]; exact prbE_r hsz (by rw [← h]; decide)), rfl⟩
          · refine o_run rfl rfl rfl ?_
            refine Pstep.go (st_fieldP rfl fi25_0 rfl rfl rfl) ?_
            refine o_run rfl rfl rfl ?_
            refine Pstep.go (st_loadP rfl rfl rfl on22 rfl) ?_
            refine o_run rfl rfl rfl ?_
            refine Pstep.go (st_move rfl rfl) ?_
            refine o_run rfl rfl rfl ?_
            refine Pstep.go (st_indexD (k) rfl rfl (rfl) (getm hk1) Tryz.underlying22 rfl sz104 rfl) ?_
            refine o_run rfl rfl rfl ?_
            refine Pstep.go (st_fieldF1 rfl fi104_1 rfl rfl rfl) ?_
            refine o_run rfl rfl rfl ?_
            refine Pstep.go (st_loadD1 rfl rfl on2 rfl) ?_
            refine o_run rfl rfl rfl ?_
            refine Pstep.go (st_gtr rfl rfl rfl) ?_
            refine Pstep.go (st_pickF rfl rfl rfl rfl) ?_
            refine o_nil ?_
            refine a_if rfl (fun h53 => ?_) (fun h53 => ?_)
            · refine a_seq ?_
              refine a_region ?_
              refine Pstep.go (st_assign rfl rfl) ?_
              refine o_nil ?_
              refine a_ret ?_
              exact ⟨_, [], [], res_of rfl, rfl, rfl, retI (by have h := hE.2 12 (by unfold rErr; rw [hgd, if_neg h36, if_pos (by simp only [Mx]; omega)]) (by decide); rw [h]; exact prbE_r hsz (by rw [← h]; decide)), rfl⟩
            · refine a_skip ?_
              refine a_seq ?_
              refine a_region ?_
              refine Pstep.go (st_assign rfl rfl) ?_
              refine o_nil ?_
              refine a_block ?_
              refine a_loopP (α := Nat) (fun m => ⟨151, [(1, (.ptr 1 0 0)), (3, (.d (intD (k : Int)))), (5, (.d (intD (m : Int))))], [(1, [prbB2 25 p])]⟩) (fun m => m ≤ k ∧ p.ro[k].r ∉ (p.ro.take m).map Roo.r) (fun m => k - m) (0) (⟨Nat.zero_le _, by simp⟩) (lep_of hF [1] rfl rfl ⟨rfl, rfl, rfl, trivial⟩) ?_
              rintro m ⟨hm0, hm⟩
              refine a_seq ?_
              refine a_seq ?_
              refine a_region ?_
              refine Pstep.go (st_move rfl rfl) ?_
              refine Pstep.go (st_move rfl rfl) ?_
              refine Pstep.go (st_lss rfl rfl rfl) ?_
              refine o_nil ?_
              refine a_if rfl (fun h56 => ?_) (fun h56 => ?_)
              · have hm1 : m < k := lt_cast h56
                refine a_skip ?_
                refine a_seq ?_
                refine a_block ?_
                refine a_seq ?_
                refine a_drawn [[], [0], [], [0, 1, 2], [0, 1, 2, 3], [0, 1, 2, 3, 4], [], [6], [], [6, 7, 8], [6, 7, 8, 9], [6, 7, 8, 9, 10], [0, 1, 2, 3, 4, 5, 6, 7, 8, 9, 10, 11]] mixed rfl ?_
                refine dws ?_
                have hm2 : m < p.ro.length := by omega
                refine d_pure [1] [] rfl rfl (fun _ => gp_none (st_fieldP rfl fi25_0 rfl rfl rfl)) ?_
                refine d_pureA [59] rfl rfl (fun _ => gp_none (st_loadP rfl rfl rfl on22 rfl)) ?_
                refine d_pure [5] [] rfl rfl (fun _ => gp_none (st_move rfl rfl)) ?_
                refine d_pure [60, 61] [] rfl rfl (fun _ => gp_none (st_indexD (m) rfl rfl (rfl) (getm hm2) Tryz.underlying22 rfl sz104 rfl)) ?_
                refine d_pure [62] [] rfl rfl (fun _ => gp_none (st_fieldFS rfl fi104_0 rfl rfl rfl)) ?_
                refine d_pure [63] [] rfl rfl (fun _ => gp_none (st_loadDS rfl rfl rw52 rfl)) ?_
                refine d_pure [1] [] rfl rfl (fun _ => gp_none (st_fieldP rfl fi25_0 rfl rfl rfl)) ?_
                refine d_pureA [65] rfl rfl (fun _ => gp_none (st_loadP rfl rfl rfl on22 rfl)) ?_
                refine d_pure [3] [] rfl rfl (fun _ => gp_none (st_move rfl rfl)) ?_
                refine d_pure [66, 67] [] rfl rfl (fun _ => gp_none (st_indexD (k) rfl rfl (rfl) (getm hk1) Tryz.underlying22 rfl sz104 rfl)) ?_
                refine d_pure [68] [] rfl rfl (fun _ => gp_none (st_fieldFS rfl fi104_0 rfl rfl rfl)) ?_
                refine d_pure [69] [] rfl rfl (fun _ => gp_none (st_loadDS rfl rfl rw52 rfl)) ?_
                refine dwc 12 rfl rfl rfl ?_
                refine dw1 13 rfl rfl ?_
                refine Pstep.go (st_eqlSt (la := rscC p.ro[m].r) (lb := rscC p.ro[k].r) (ds := rscT) (by kernel_rfl) (by kernel_rfl) (by kernel_rfl) rfl rfl rfl rfl (rsc_plain _) (rsc_plain _) (rsc_eqC _ _) rfl) ?_
                refine o_nil ⟨rfl, ?_⟩
                refine dwe ?_
                refine a_if rfl (fun h71 => ?_) (fun h71 => ?_)
                · refine a_seq ?_
                  refine a_region ?_
                  refine Pstep.go (st_assign rfl rfl) ?_
                  refine o_nil ?_
                  refine a_ret ?_
                  exact ⟨_, [], [], res_of rfl, rfl, rfl, retI (by have h := hE.2 7 (by unfold rErr; rw [hgd, if_neg h36, if_neg (by simp only [Mx]; omega), if_pos (mem_tk hk1 hm1 h71)]) (by decide); rw [h]; exact prbE_r hsz (by rw [← h]; decide)), rfl⟩
                · refine a_skip ?_
                  refine a_region ?_
                  refine Pstep.go (st_move rfl rfl) ?_
                  refine Pstep.go (st_add rfl rfl (wrapS (m + 1) (by omega)) rfl) ?_
                  refine Pstep.go (st_assign rfl rfl) ?_
                  refine o_nil ?_
                  exact ⟨m + 1, ⟨by show m + 1 ≤ _; omega, nmem_next hm2 hm h71⟩, by show k - (m + 1) < k - m; omega, lep_of hF [1] rfl (rfl) ⟨rfl, rfl, rfl, trivial⟩⟩
              · have hnot : p.ro[k].r ∉ (p.ro.take k).map Roo.r := by have e : m = k := by { have h := h56; omega }; subst e; exact hm
                refine a_exit ?_
                refine a_region ?_
                refine Pstep.go (st_move rfl rfl) ?_
                refine Pstep.go (st_add rfl rfl (wrapS (k + 1) (by omega)) rfl) ?_
                refine Pstep.go (st_assign rfl rfl) ?_
                refine o_nil ?_
                exact ⟨k + 1, ⟨by show k + 1 ≤ _; omega, hE.1 (by unfold rErr; rw [hgd, if_neg h36, if_neg (by simp only [Mx]; omega), if_neg hnot])⟩, by show p.ro.length - (k + 1) < p.ro.length - k; omega, lep_of hF [1] rfl (rfl) ⟨rfl, rfl, trivial⟩⟩
      · refine a_exit ?_
        refine a_seq ?_
        refine a_seq ?_
        have hr0 : roomsE p.ro = 0 := by rw [hk, List.drop_of_length_le (by have h := h25; simp only [List.length_range]; omega)]; rfl
        refine a_region ?_
        refine Pstep.go (st_assign rfl rfl) ?_
        refine o_nil ?_
        refine a_block ?_
        refine a_loopP (α := Nat) (fun k => ⟨151, [(1, (.ptr 1 0 0)), (6, (.d (intD (k : Int))))], [(1, [prbB2 25 p])]⟩) (fun k => k ≤ p.it.length ∧ itemsE p.it = fst0 (((List.range p.it.length).drop k).map (iErr p.it))) (fun k => p.it.length - k) (0) (⟨Nat.zero_le _, rfl⟩) (lep_of hF [1] rfl rfl ⟨rfl, rfl, trivial⟩) ?_
        rintro k ⟨hk0, hk⟩
        refine a_seq ?_
        refine a_seq ?_
        refine a_region ?_
        refine Pstep.go (st_move rfl rfl) ?_
        refine Pstep.go (st_fieldP rfl fi25_1 rfl rfl rfl) ?_
        refine Pstep.go (st_loadP rfl rfl rfl on23 rfl) ?_
        refine Pstep.go (st_lenMap rfl Tryz.underlying23 rfl) ?_
        refine Pstep.go (st_lss rfl rfl rfl) ?_
        refine o_nil ?_
        refine a_if rfl (fun h76 => ?_) (fun h76 => ?_)
        · have hk1 : k < p.it.length := lt_cast h76
          refine a_skip ?_
          refine a_seq ?_
          refine a_block ?_
          refine a_seq ?_
          refine a_seq ?_
          refine a_region ?_
          have hE := range_cases hk1 hk
          have hgd := getD_at itm0 hk1
          have hgi := g3 _ (List.getElem_mem hk1)
          refine Pstep.go (st_fieldP rfl fi25_1 rfl rfl rfl) ?_
          refine Pstep.go (st_loadP rfl rfl rfl on23 rfl) ?_
          refine Pstep.go (st_move rfl rfl) ?_
          refine Pstep.go (st_indexD (k) rfl rfl (rfl) (getm hk1) Tryz.underlying23 rfl sz80 rfl) ?_
          refine Pstep.go (st_loadDS rfl rfl rw80 rfl) ?_
          refine Pstep.go (st_callP (refcheck_p p.it[k] hgi.1 hgi.2.1 hgi.2.2) rfl rfl) ?_
          refine Pstep.go (st_assign rfl rfl) ?_
          refine o_nil ?_
          refine a_seq ?_
          refine a_region ?_
          refine Pstep.go (st_move rfl rfl) ?_
          refine Pstep.go (st_neq rfl rfl rfl) ?_
          refine o_nil ?_
          refine a_if rfl (fun h86 => ?_) (fun h86 => ?_)
          · refine a_seq ?_
            refine a_region ?_
            refine Pstep.go (st_move rfl rfl) ?_
            refine Pstep.go (st_assign rfl rfl) ?_
            refine o_nil ?_
            refine a_ret ?_
            exact ⟨_, [], [], res_of rfl, rfl, rfl, retI (prbE_i hsz hr0 (hE.2 _ (by unfold iErr; rw [hgd, if_pos h86]) h86) h86), rfl⟩
          · refine a_skip ?_
            refine a_seq ?_
            refine a_region ?_
            refine Pstep.go (st_assign rfl rfl) ?_
            refine o_nil ?_
            refine a_block ?_
            refine a_loopP (α := Nat) (fun m => ⟨151, [(1, (.ptr 1 0 0)), (6, (.d (intD (k : Int)))), (8, (.d (intD (m : Int))))], [(1, [prbB2 25 p])]⟩) (fun m => m ≤ k ∧ p.it[k].id ∉ (p.it.take m).map Itm.id ∧ p.it[k].sq ∉ (p.it.take m).map Itm.sq) (fun m => k - m) (0) (⟨Nat.zero_le _, by simp, by simp⟩) (lep_of hF [1] rfl rfl ⟨rfl, rfl, rfl, trivial⟩) ?_
            rintro m ⟨hm0, hma, hmb⟩
            refine a_seq ?_
            refine a_seq ?_
            refine a_region ?_
            refine Pstep.go (st_move rfl rfl) ?_
            refine Pstep.go (st_move rfl rfl) ?_
            refine Pstep.go (st_lss rfl rfl rfl) ?_
            refine o_nil ?_
            refine a_if rfl (fun h90 => ?_) (fun h90 => ?_)
            · have hm1 : m < k := lt_cast h90
              refine a_skip ?_
              refine a_seq ?_
              refine a_block ?_
              refine a_seq ?_
              refine a_drawn [[], [0], [], [0, 1, 2], [0, 1, 2, 3], [0, 1, 2, 3, 4], [], [6], [], [6, 7, 8], [6, 7, 8, 9], [6, 7, 8, 9, 10], [0, 1, 2, 3, 4, 5, 6, 7, 8, 9, 10, 11], [0, 1, 2, 3, 4, 5, 6, 7, 8, 9, 10, 11, 12], [0, 1, 2, 3, 4, 5, 6, 7, 8, 9, 10, 11, 12, 13], [0, 1, 2, 3, 4, 5, 6, 7, 8, 9, 10, 11, 12, 13, 14], [0, 1, 2, 3, 4, 5, 6, 7, 8, 9, 10, 11, 12, 13], [0, 1, 2, 3, 4, 5, 6, 7, 8, 9, 10, 11, 12, 13, 14, 15, 16], [0, 1, 2, 3, 4, 5, 6, 7, 8, 9, 10, 11, 12, 13, 14, 15, 16, 17], [0, 1, 2, 3, 4, 5, 6, 7, 8, 9, 10, 11, 12, 13, 14, 15, 16, 17, 18], [0, 1, 2, 3, 4, 5, 6, 7, 8, 9, 10, 11, 12, 13], [0, 1, 2, 3, 4, 5, 6, 7, 8, 9, 10, 11, 12, 13, 20], [0, 1, 2, 3, 4, 5, 6, 7, 8, 9, 10, 11, 12, 13], [0, 1, 2, 3, 4, 5, 6, 7, 8, 9, 10, 11, 12, 13, 20, 21, 22], [0, 1, 2, 3, 4, 5, 6, 7, 8, 9, 10, 11, 12, 13, 20, 21, 22, 23], [0, 1, 2, 3, 4, 5, 6, 7, 8, 9, 10, 11, 12, 13, 20, 21, 22, 23, 24], [0, 1, 2, 3, 4, 5, 6, 7, 8, 9, 10, 11, 12, 13, 14, 15, 16, 17, 18, 19, 20, 21, 22, 23, 24, 25], [0, 1, 2, 3, 4, 5, 6, 7, 8, 9, 10, 11, 12, 13, 14, 15, 16, 17, 18, 19, 20, 21, 22, 23, 24, 25, 26]] mixed rfl ?_
              refine dws ?_
              have hm2 : m < p.it.length := by omega
              refine d_pure [1] [] rfl rfl (fun _ => gp_none (st_fieldP rfl fi25_1 rfl rfl rfl)) ?_
              refine d_pureA [93] rfl rfl (fun _ => gp_none (st_loadP rfl rfl rfl on23 rfl)) ?_
              refine d_pure [8] [] rfl rfl (fun _ => gp_none (st_move rfl rfl)) ?_
              refine d_pure [94, 95] [] rfl rfl (fun _ => gp_none (st_indexD (m) rfl rfl (rfl) (getm hm2) Tryz.underlying23 rfl sz80 rfl)) ?_
              refine d_pure [96] [] rfl rfl (fun _ => gp_none (st_fieldF1 rfl fi80_0 rfl rfl rfl)) ?_
              refine d_pure [97] [] rfl rfl (fun _ => gp_none (st_loadD1 rfl rfl on3 rfl)) ?_
              refine d_pure [1] [] rfl rfl (fun _ => gp_none (st_fieldP rfl fi25_1 rfl rfl rfl)) ?_
              refine d_pureA [99] rfl rfl (fun _ => gp_none (st_loadP rfl rfl rfl on23 rfl)) ?_
              refine d_pure [6] [] rfl rfl (fun _ => gp_none (st_move rfl rfl)) ?_
              refine d_pure [100, 101] [] rfl rfl (fun _ => gp_none (st_indexD (k) rfl rfl (rfl) (getm hk1) Tryz.underlying23 rfl sz80 rfl)) ?_
              refine d_pure [102] [] rfl rfl (fun _ => gp_none (st_fieldF1 rfl fi80_0 rfl rfl rfl)) ?_
              refine d_pure [103] [] rfl rfl (fun _ => gp_none (st_loadD1 rfl rfl on3 rfl)) ?_
              refine dwc 12 rfl rfl rfl ?_
              refine dw1 13 rfl rfl ?_
              refine Pstep.go (st_eql rfl rfl rfl) ?_
              refine o_nil ⟨rfl, ?_⟩
              refine dw1 14 rfl rfl ?_
              refine Pstep.go (st_move rfl rfl) ?_
              refine o_splitP 106 rfl (fun h106 => ?_) (fun h106 => ?_)
              · refine o_nil ⟨rfl, ?_⟩
                refine dws ?_
                refine d_pure [1, 106] [] rfl rfl (fun _ => gp_pass rfl rfl rfl rfl) ?_
                refine d_pure [107, 106] [] rfl rfl (fun _ => gp_pass rfl rfl rfl rfl) ?_
                refine d_pure [8, 106] [] rfl rfl (fun _ => gp_pass rfl rfl rfl rfl) ?_
                refine d_pure [108, 109, 106] [] rfl rfl (fun _ => gp_pass rfl rfl rfl rfl) ?_
                refine d_pure [110, 106] [] rfl rfl (fun _ => gp_pass rfl rfl rfl rfl) ?_
                refine d_pure [111, 106] [] rfl rfl (fun _ => gp_pass rfl rfl rfl rfl) ?_
                refine d_pure [1, 106] [] rfl rfl (fun _ => gp_pass rfl rfl rfl rfl) ?_
                refine d_pure [113, 106] [] rfl rfl (fun _ => gp_pass rfl rfl rfl rfl) ?_
                refine d_pure [6, 106] [] rfl rfl (fun _ => gp_pass rfl rfl rfl rfl) ?_
                refine d_pure [114, 115, 106] [] rfl rfl (fun _ => gp_pass rfl rfl rfl rfl) ?_
                refine d_pure [116, 106] [] rfl rfl (fun _ => gp_pass rfl rfl rfl rfl) ?_
                refine d_pure [117, 106] [] rfl rfl (fun _ => gp_pass rfl rfl rfl rfl) ?_
                refine dwc 26 rfl rfl rfl ?_
                refine dw1 27 rfl rfl ?_
                refine o_pass rfl rfl rfl rfl ?_
                refine o_nil ⟨rfl, ?_⟩
                refine dw1 28 rfl rfl ?_
                refine Pstep.go (st_pickT rfl rfl rfl rfl) ?_
                refine o_nil ⟨rfl, ?_⟩
                refine dwe ?_
                refine a_true rfl rfl ?_
                refine a_seq ?_
                refine a_region ?_
                refine Pstep.go (st_assign rfl rfl) ?_
                refine o_nil ?_
                refine a_ret ?_
                exact ⟨_, [], [], res_of rfl, rfl, rfl, retI (prbE_i hsz hr0 (hE.2 7 (by unfold iErr; rw [hgd, if_neg h86, if_pos (by first | (exact .inl (mem_tk hk1 hm1 h106)) | (exact .inr (mem_tk hk1 hm1 (by assumption))))]) (by decide)) (by decide)), rfl⟩
              · refine o_nil ⟨rfl, ?_⟩
                refine dws ?_
                refine d_pure [1, 106] [] rfl rfl (fun _ => gp_run rfl rfl rfl (st_fieldP rfl fi25_1 rfl rfl rfl)) ?_
                refine d_pureA [107, 106] rfl rfl (fun _ => gp_run rfl rfl rfl (st_loadP rfl rfl rfl on23 rfl)) ?_
                refine d_pure [8, 106] [] rfl rfl (fun _ => gp_run rfl rfl rfl (st_move rfl rfl)) ?_
                refine d_pure [108, 109, 106] [] rfl rfl (fun _ => gp_run rfl rfl rfl (st_indexD (m) rfl rfl (rfl) (getm hm2) Tryz.underlying23 rfl sz80 rfl)) ?_
                refine d_pure [110, 106] [] rfl rfl (fun _ => gp_run rfl rfl rfl (st_fieldF1 rfl fi80_2 rfl rfl rfl)) ?_
                refine d_pure [111, 106] [] rfl rfl (fun _ => gp_run rfl rfl rfl (st_loadD1 rfl rfl on3 rfl)) ?_
                refine d_pure [1, 106] [] rfl rfl (fun _ => gp_run rfl rfl rfl (st_fieldP rfl fi25_1 rfl rfl rfl)) ?_
                refine d_pureA [113, 106] rfl rfl (fun _ => gp_run rfl rfl rfl (st_loadP rfl rfl rfl on23 rfl)) ?_
                refine d_pure [6, 106] [] rfl rfl (fun _ => gp_run rfl rfl rfl (st_move rfl rfl)) ?_
                refine d_pure [114, 115, 106] [] rfl rfl (fun _ => gp_run rfl rfl rfl (st_indexD (k) rfl rfl (rfl) (getm hk1) Tryz.underlying23 rfl sz80 rfl)) ?_
                refine d_pure [116, 106] [] rfl rfl (fun _ => gp_run rfl rfl rfl (st_fieldF1 rfl fi80_2 rfl rfl rfl)) ?_
                refine d_pure [117, 106] [] rfl rfl (fun _ => gp_run rfl rfl rfl (st_loadD1 rfl rfl on3 rfl)) ?_
                refine dwc 26 rfl rfl rfl ?_
                refine dw1 27 rfl rfl ?_
                refine o_run rfl rfl rfl ?_
                refine Pstep.go (st_eql rfl rfl rfl) ?_
                refine o_nil ⟨rfl, ?_⟩
                refine dw1 28 rfl rfl ?_
                refine Pstep.go (st_pickF rfl rfl rfl rfl) ?_
                refine o_nil ⟨rfl, ?_⟩
                refine dwe ?_
                refine a_if rfl (fun h120 => ?_) (fun h120 => ?_)
                · refine a_seq ?_
                  refine a_region ?_
                  refine Pstep.go (st_assign rfl rfl) ?_
                  refine o_nil ?_
                  refine a_ret ?_
                  exact ⟨_, [], [], res_of rfl, rfl, rfl, retI (prbE_i hsz hr0 (hE.2 7 (by unfold iErr; rw [hgd, if_neg h86, if_pos (by first | (exact .inl (mem_tk hk1 hm1 h106)) | (exact .inr (mem_tk hk1 hm1 (by assumption))))]) (by decide)) (by decide)), rfl⟩
                · refine a_skip ?_
                  refine a_region ?_
                  refine Pstep.go (st_move rfl rfl) ?_
                  refine Pstep.go (st_add rfl rfl (wrapS (m + 1) (by omega)) rfl) ?_
                  refine Pstep.go (st_assign rfl rfl) ?_
                  refine o_nil ?_
                  exact ⟨m + 1, ⟨by show m + 1 ≤ _; omega, nmem_next hm2 hma (by simp_all), nmem_next hm2 hmb (by simp_all)⟩, by show k - (m + 1) < k - m; omega, lep_of hF [1] rfl (rfl) ⟨rfl, rfl, rfl, trivial⟩⟩
            · have hnot : ¬ (p.it[k].id ∈ (p.it.take k).map Itm.id ∨ p.it[k].sq ∈ (p.it.take k).map Itm.sq) := by have e : m = k := by { have h := h90; omega }; subst e; rintro (h | h); exact hma h; exact hmb h
              refine a_exit ?_
              refine a_region ?_
              refine Pstep.go (st_move rfl rfl) ?_
              refine Pstep.go (st_add rfl rfl (wrapS (k + 1) (by omega)) rfl) ?_
              refine Pstep.go (st_assign rfl rfl) ?_
              refine o_nil ?_
              exact ⟨k + 1, ⟨by show k + 1 ≤ _; omega, hE.1 (by unfold iErr; rw [hgd, if_neg h86, if_neg hnot])⟩, by show p.it.length - (k + 1) < p.it.length - k; omega, lep_of hF [1] rfl (rfl) ⟨rfl, rfl, trivial⟩⟩
        · refine a_exit ?_
          refine a_seq ?_
          refine a_seq ?_
          have hi0 : itemsE p.it = 0 := by rw [hk, List.drop_of_length_le (by have h := h76; simp only [List.length_range]; omega)]; rfl
          refine a_region ?_
          refine Pstep.go (st_assign rfl rfl) ?_
          refine o_nil ?_
          refine a_block ?_
          refine a_loopP (α := Nat) (fun k => ⟨151, [(1, (.ptr 1 0 0)), (9, (.d (intD (k : Int))))], [(1, [prbB2 25 p])]⟩) (fun k => k ≤ p.it.length ∧ afterE p.it = fst0 ((p.it.drop k).map (fErr (p.it.map Itm.id)))) (fun k => p.it.length - k) (0) (⟨Nat.zero_le _, rfl⟩) (lep_of hF [1] rfl rfl ⟨rfl, rfl, trivial⟩) ?_
          rintro k ⟨hk0, hk⟩
          refine a_seq ?_
          refine a_seq ?_
          refine a_region ?_
          refine Pstep.go (st_move rfl rfl) ?_
          refine Pstep.go (st_fieldP rfl fi25_1 rfl rfl rfl) ?_
          refine Pstep.go (st_loadP rfl rfl rfl on23 rfl) ?_
          refine Pstep.go (st_lenMap rfl Tryz.underlying23 rfl) ?_
          refine Pstep.go (st_lss rfl rfl rfl) ?_
          refine o_nil ?_
          refine a_if rfl (fun h125 => ?_) (fun h125 => ?_)
          · have hk1 : k < p.it.length := lt_cast h125
            refine a_skip ?_
            refine a_seq ?_
            refine a_block ?_
            refine a_seq ?_
            have hE := fst0_cases hk1 hk
            have hgi := g3 _ (List.getElem_mem hk1)
            refine a_region ?_
            refine Pstep.go (st_assign rfl rfl) ?_
            refine o_nil ?_
            refine a_block ?_
            refine a_loopP (α := Nat) (fun j => ⟨151, [(1, (.ptr 1 0 0)), (9, (.d (intD (k : Int)))), (10, (.d (intD (j : Int))))], [(1, [prbB2 25 p])]⟩) (fun j => j ≤ p.it[k].af.length ∧ ∀ x ∈ p.it[k].af.take j, x ∈ p.it.map Itm.id) (fun j => p.it[k].af.length - j) (0) (⟨Nat.zero_le _, by simp⟩) (lep_of hF [1] rfl rfl ⟨rfl, rfl, rfl, trivial⟩) ?_
            rintro j ⟨hj0, hj⟩
            refine a_seq ?_
            refine a_seq ?_
            refine a_region ?_
            refine Pstep.go (st_move rfl rfl) ?_
            refine Pstep.go (st_fieldP rfl fi25_1 rfl rfl rfl) ?_
            refine Pstep.go (st_loadP rfl rfl rfl on23 rfl) ?_
            refine Pstep.go (st_move rfl rfl) ?_
            refine Pstep.go (st_indexD (k) rfl rfl (rfl) (getm hk1) Tryz.underlying23 rfl sz80 rfl) ?_
            refine Pstep.go (st_fieldF1 rfl fi80_5 rfl rfl rfl) ?_
            refine Pstep.go (st_loadD1 rfl rfl on26 rfl) ?_
            refine Pstep.go (st_lenMap rfl Tryz.underlying26 rfl) ?_
            refine Pstep.go (st_lss rfl rfl rfl) ?_
            refine o_nil ?_
            refine a_if rfl (fun h136 => ?_) (fun h136 => ?_)
            · have hj1 : j < p.it[k].af.length := lt_cast h136
              refine a_skip ?_
              refine a_seq ?_
              refine a_block ?_
              refine a_seq ?_
              refine a_drawn [[], [], [1], [], [1, 2, 3], [1, 2, 3, 4], [1, 2, 3, 4, 5], [], [1, 2, 3, 4, 5, 6, 7], [1, 2, 3, 4, 5, 6, 7, 8], [0, 1, 2, 3, 4, 5, 6, 7, 8, 9], [0, 1, 2, 3, 4, 5, 6, 7, 8, 9, 10]] mixed rfl ?_
              refine dws ?_
              refine d_pureA [1] rfl rfl (fun _ => gp_none (st_loadPS rfl rfl rw25 rfl rfl rfl)) ?_
              refine d_pure [1] [] rfl rfl (fun _ => gp_none (st_fieldP rfl fi25_1 rfl rfl rfl)) ?_
              refine d_pureA [140] rfl rfl (fun _ => gp_none (st_loadP rfl rfl rfl on23 rfl)) ?_
              refine d_pure [9] [] rfl rfl (fun _ => gp_none (st_move rfl rfl)) ?_
              refine d_pure [141, 142] [] rfl rfl (fun _ => gp_none (st_indexD (k) rfl rfl (rfl) (getm hk1) Tryz.underlying23 rfl sz80 rfl)) ?_
              refine d_pure [143] [] rfl rfl (fun _ => gp_none (st_fieldF1 rfl fi80_5 rfl rfl rfl)) ?_
              refine d_pure [144] [] rfl rfl (fun _ => gp_none (st_loadD1 rfl rfl on26 rfl)) ?_
              refine d_pure [10] [] rfl rfl (fun _ => gp_none (st_move rfl rfl)) ?_
              refine d_pure [145, 146] [] rfl rfl (fun _ => gp_none (st_indexD (j) rfl rfl (rfl) (getm hj1) Tryz.underlying26 rfl sz3 rfl)) ?_
              refine d_pure [147] [] rfl rfl (fun _ => gp_none (st_loadD1 rfl rfl on3 rfl)) ?_
              refine dwc 10 rfl rfl rfl ?_
              refine dw1 11 rfl rfl ?_
              refine Pstep.go (st_callP (find_p p p.it[k].af[j] (by omega)) rfl rfl) ?_
              refine o_nil ⟨rfl, ?_⟩
              refine dw1 12 rfl rfl ?_
              refine Pstep.go (st_lss rfl rfl rfl) ?_
              refine o_nil ⟨rfl, ?_⟩
              refine dwe ?_
              refine a_if rfl (fun h150 => ?_) (fun h150 => ?_)
              · refine a_seq ?_
                refine a_region ?_
                refine Pstep.go (st_assign rfl rfl) ?_
                refine o_nil ?_
                refine a_ret ?_
                exact ⟨_, [], [], res_of rfl, rfl, rfl, retI (prbE_a hsz hr0 hi0 (hE.2 9 (by unfold fErr; rw [if_pos (List.any_eq_true.2 ⟨_, List.getElem_mem hj1, by unfold notIn; rw [decide_eq_false (ixI_neg h150)]; rfl⟩)]) (by decide))), rfl⟩
              · refine a_skip ?_
                refine a_region ?_
                refine Pstep.go (st_move rfl rfl) ?_
                refine Pstep.go (st_add rfl rfl (wrapS (j + 1) (by omega)) rfl) ?_
                refine Pstep.go (st_assign rfl rfl) ?_
                refine o_nil ?_
                exact ⟨j + 1, ⟨by show j + 1 ≤ _; omega, by rw [List.take_succ_eq_append_getElem hj1]; intro x hx; rcases List.mem_append.1 hx with hx | hx; exact hj x hx; rw [List.mem_singleton.1 hx]; exact ixI_nn (by simpa using h150)⟩, by show p.it[k].af.length - (j + 1) < p.it[k].af.length - j; omega, lep_of hF [1] rfl (rfl) ⟨rfl, rfl, rfl, trivial⟩⟩
            · have hall : ¬ p.it[k].af.any (notIn (p.it.map Itm.id)) = true := by rw [List.any_eq_true]; rintro ⟨x, hx, hn⟩; have hx' := hj x (by rw [List.take_of_length_le (by have h := h136; omega)]; exact hx); simp [notIn, hx'] at hn
              refine a_exit ?_
              refine a_region ?_
              refine Pstep.go (st_move rfl rfl) ?_
              refine Pstep.go (st_add rfl rfl (wrapS (k + 1) (by omega)) rfl) ?_
              refine Pstep.go (st_assign rfl rfl) ?_
              refine o_nil ?_
              exact ⟨k + 1, ⟨by show k + 1 ≤ _; omega, hE.1 (by unfold fErr; rw [if_neg hall])⟩, by show p.it.length - (k + 1) < p.it.length - k; omega, lep_of hF [1] rfl (rfl) ⟨rfl, rfl, trivial⟩⟩
          · refine a_exit ?_
            refine a_seq ?_
            refine a_region ?_
            refine Pstep.go (st_assign rfl rfl) ?_
            refine o_nil ?_
            refine a_ret ?_
            exact ⟨_, [], [], res_of rfl, rfl, rfl, retI (prbE_a hsz hr0 hi0 (by rw [hk, fst0_end (by have h := h125; omega)])), rfl⟩
end Go.Proofs.YtnamabifclidmaaGreat
