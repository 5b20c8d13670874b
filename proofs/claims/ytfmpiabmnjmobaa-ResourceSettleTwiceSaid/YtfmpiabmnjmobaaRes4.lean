/- Layer 28: the example of the document; the reference's order. -/
import Derived.Test.YtfmpiabmnjmobaaRes3
namespace Go.Proofs.Ytfmpiabmnjmobaa
open Go.RowKit

def accA : Acc := ⟨[65], 0, [67, 65, 83, 72]⟩
def accB : Acc := ⟨[66], 0, [67, 65, 83, 72]⟩
def pay15 : Itm := ⟨1, 0, 1, [⟨accA, -5⟩, ⟨accB, 5⟩], [⟨[65], [66], 5⟩], []⟩
theorem pay15_check : checkE pay15 = 0 := by decide
theorem pay15_dlt : dltS pay15 = [(rPost ⟨accA, -5⟩, -5), (rPost ⟨accB, 5⟩, 5), (rBil [65] [66], -5), (rBil [66] [65], 5), (rMul [65], -5), (rMul [66], 5)] := by decide
set_option maxRecDepth 100000 in
theorem payment0_p : PCalls Try.prog 49 [.d (intD 1), .d (intD 5)] (.agg [intD 1, intD 0, intD 1, .sl none (pay15.po.map postD), .sl none (pay15.pa.map payD), .sl (some true) []]) := by
  refine a_enter Try.func49 rfl rfl Try.ntmps49 rfl rfl rfl fun F hF => ?_
  refine a_seq ?_
  refine a_region ?_
  refine Estep.go (st_alloc 1 zl33 rfl rfl rfl rfl) ?_
  refine o_nil ?_
  refine a_seq ?_
  refine a_region ?_
  refine Pstep.go (st_build zl41 pl41 rfl rfl rfl) ?_
  refine Pstep.go (st_build zl41 pl41 rfl rfl rfl) ?_
  refine Estep.go (st_alloc 2 zl41 rfl rfl rfl rfl) ?_
  refine Estep.go (st_alloc 3 zl41 rfl rfl rfl rfl) ?_
  refine Estep.go (st_storeP rfl rfl rfl rfl rfl rfl rfl sz41) ?_
  refine Estep.go (st_storeP rfl rfl rfl rfl rfl rfl rfl sz41) ?_
  refine o_nil ?_
  refine a_seq ?_
  refine a_region ?_
  refine Pstep.go (st_move rfl rfl) ?_
  refine Pstep.go (st_move rfl rfl) ?_
  refine Pstep.go (st_loadPS rfl rfl rw41 rfl rfl rfl) ?_
  refine Pstep.go (st_move rfl rfl) ?_
  refine Pstep.go (st_neg rfl (show IntKind.i64.wrap (0 - 5) = -5 from by decide) rfl) ?_
  refine Pstep.go (st_build zl106 pl106 rfl rfl rfl) ?_
  refine Pstep.go (st_loadPS rfl rfl rw41 rfl rfl rfl) ?_
  refine Pstep.go (st_move rfl rfl) ?_
  refine Pstep.go (st_build zl106 pl106 rfl rfl rfl) ?_
  refine Estep.go (st_buildSlice 4 sl30 rfl rfl rfl rfl rfl rfl rfl rfl) ?_
  refine o_freezeM (emb := postD) 18 4 pay15.po rfl rfl rfl rfl rfl rfl rfl ?_
  refine Pstep.go (st_move rfl rfl) ?_
  refine Pstep.go (st_build zl108 pl108 rfl rfl rfl) ?_
  refine Estep.go (st_buildSlice 5 sl31 rfl rfl rfl rfl rfl rfl rfl rfl) ?_
  refine o_freezeM (emb := payD) 21 5 pay15.pa rfl rfl rfl rfl rfl rfl rfl ?_
  refine Pstep.go (st_build zl33 pl33 rfl rfl rfl) ?_
  refine Estep.go (st_storeP rfl rfl rfl rfl rfl rfl rfl sz33) ?_
  refine o_nil ?_
  refine a_ret ?_
  exact ⟨_, [], [], res_of rfl, rfl, rfl, rfl, rfl⟩
theorem payment_p : PCalls Try.prog 49 [.d (intD 1), .d (intD 5)] (itmD pay15) :=
  payment0_p.weak fun w O v h => h.aggMono rfl (by simp [D.one]) fun i c c' hc hc' v hv => by
    match i, hc, hc' with
    | 0, hc, hc' => injection hc with hc; injection hc' with hc'; subst hc hc'; exact hv
    | 1, hc, hc' => injection hc with hc; injection hc' with hc'; subst hc hc'; exact hv
    | 2, hc, hc' => injection hc with hc; injection hc' with hc'; subst hc hc'; exact hv
    | 3, hc, hc' => injection hc with hc; injection hc' with hc'; subst hc hc'; exact hv
    | 4, hc, hc' => injection hc with hc; injection hc' with hc'; subst hc hc'; exact hv
    | 5, hc, hc' => injection hc with hc; injection hc' with hc'; subst hc hc'; exact hv.anyNil
set_option maxRecDepth 100000 in
theorem known_p : PCalls Try.prog 11 [] (.raw (.bool true)) := by
  have hd := deltas_p pay15 (by decide) (by decide) (by decide)
  rw [pay15_check, pay15_dlt] at hd
  refine a_enter Try.func11 rfl rfl Try.ntmps11 rfl rfl rfl fun F hF => ?_
  refine a_seq ?_
  refine a_region ?_
  refine Pstep.go (st_assign rfl rfl) ?_
  refine o_nil ?_
  refine a_seq ?_
  refine a_region ?_
  refine Pstep.go (st_callP (payment_p) rfl rfl) ?_
  refine Pstep.go (st_callP (hd) rfl rfl) ?_
  refine Pstep.go (st_move rfl rfl) ?_
  refine Pstep.go (st_extractD rfl rfl rfl) ?_
  refine Pstep.go (st_extractD rfl rfl rfl) ?_
  refine Pstep.go (st_assign rfl rfl) ?_
  refine Pstep.go (st_assign rfl rfl) ?_
  refine o_nil ?_
  refine a_seq ?_
  refine a_region ?_
  refine Pstep.go (st_move rfl rfl) ?_
  refine Pstep.go (st_eql rfl rfl rfl) ?_
  refine Pstep.go (st_move rfl rfl) ?_
  refine o_setT 10 rfl (rfl) ?_
  refine o_run rfl rfl rfl ?_
  refine Pstep.go (st_move rfl rfl) ?_
  refine o_run rfl rfl rfl ?_
  refine Pstep.go (st_lenMap rfl Try.underlying37 rfl) ?_
  refine o_run rfl rfl rfl ?_
  refine Pstep.go (st_eql rfl rfl rfl) ?_
  refine Pstep.go (st_pickT rfl rfl rfl rfl) ?_
  refine Pstep.go (st_move rfl rfl) ?_
  refine o_setT 15 rfl (rfl) ?_
  refine o_run rfl rfl rfl ?_
  refine Pstep.go (st_move rfl rfl) ?_
  refine o_run rfl rfl rfl ?_
  refine Pstep.go (st_indexD (0) rfl rfl (rfl) (rfl) Try.underlying37 rfl sz45 rfl) ?_
  refine o_run rfl rfl rfl ?_
  refine Pstep.go (st_fieldF1 rfl fi45_1 rfl rfl rfl) ?_
  refine o_run rfl rfl rfl ?_
  refine Pstep.go (st_loadD1 rfl rfl on2 rfl) ?_
  refine o_run rfl rfl rfl ?_
  refine Pstep.go (st_eql rfl rfl rfl) ?_
  refine Pstep.go (st_pickT rfl rfl rfl rfl) ?_
  refine Pstep.go (st_move rfl rfl) ?_
  refine o_setT 22 rfl (rfl) ?_
  refine o_run rfl rfl rfl ?_
  refine Pstep.go (st_move rfl rfl) ?_
  refine o_run rfl rfl rfl ?_
  refine Pstep.go (st_indexD (1) rfl rfl (rfl) (rfl) Try.underlying37 rfl sz45 rfl) ?_
  refine o_run rfl rfl rfl ?_
  refine Pstep.go (st_fieldF1 rfl fi45_1 rfl rfl rfl) ?_
  refine o_run rfl rfl rfl ?_
  refine Pstep.go (st_loadD1 rfl rfl on2 rfl) ?_
  refine o_run rfl rfl rfl ?_
  refine Pstep.go (st_eql rfl rfl rfl) ?_
  refine Pstep.go (st_pickT rfl rfl rfl rfl) ?_
  refine Pstep.go (st_move rfl rfl) ?_
  refine o_setT 29 rfl (rfl) ?_
  refine o_run rfl rfl rfl ?_
  refine Pstep.go (st_move rfl rfl) ?_
  refine o_run rfl rfl rfl ?_
  refine Pstep.go (st_indexD (2) rfl rfl (rfl) (rfl) Try.underlying37 rfl sz45 rfl) ?_
  refine o_run rfl rfl rfl ?_
  refine Pstep.go (st_fieldF1 rfl fi45_1 rfl rfl rfl) ?_
  refine o_run rfl rfl rfl ?_
  refine Pstep.go (st_loadD1 rfl rfl on2 rfl) ?_
  refine o_run rfl rfl rfl ?_
  refine Pstep.go (st_eql rfl rfl rfl) ?_
  refine Pstep.go (st_pickT rfl rfl rfl rfl) ?_
  refine Pstep.go (st_move rfl rfl) ?_
  refine o_setT 36 rfl (rfl) ?_
  refine o_run rfl rfl rfl ?_
  refine Pstep.go (st_move rfl rfl) ?_
  refine o_run rfl rfl rfl ?_
  refine Pstep.go (st_indexD (3) rfl rfl (rfl) (rfl) Try.underlying37 rfl sz45 rfl) ?_
  refine o_run rfl rfl rfl ?_
  refine Pstep.go (st_fieldF1 rfl fi45_1 rfl rfl rfl) ?_
  refine o_run rfl rfl rfl ?_
  refine Pstep.go (st_loadD1 rfl rfl on2 rfl) ?_
  refine o_run rfl rfl rfl ?_
  refine Pstep.go (st_eql rfl rfl rfl) ?_
  refine Pstep.go (st_pickT rfl rfl rfl rfl) ?_
  refine Pstep.go (st_move rfl rfl) ?_
  refine o_setT 43 rfl (rfl) ?_
  refine o_run rfl rfl rfl ?_
  refine Pstep.go (st_move rfl rfl) ?_
  refine o_run rfl rfl rfl ?_
  refine Pstep.go (st_indexD (4) rfl rfl (rfl) (rfl) Try.underlying37 rfl sz45 rfl) ?_
  refine o_run rfl rfl rfl ?_
  refine Pstep.go (st_fieldF1 rfl fi45_1 rfl rfl rfl) ?_
  refine o_run rfl rfl rfl ?_
  refine Pstep.go (st_loadD1 rfl rfl on2 rfl) ?_
  refine o_run rfl rfl rfl ?_
  refine Pstep.go (st_eql rfl rfl rfl) ?_
  refine Pstep.go (st_pickT rfl rfl rfl rfl) ?_
  refine Pstep.go (st_move rfl rfl) ?_
  refine o_setT 50 rfl (rfl) ?_
  refine o_run rfl rfl rfl ?_
  refine Pstep.go (st_move rfl rfl) ?_
  refine o_run rfl rfl rfl ?_
  refine Pstep.go (st_indexD (5) rfl rfl (rfl) (rfl) Try.underlying37 rfl sz45 rfl) ?_
  refine o_run rfl rfl rfl ?_
  refine Pstep.go (st_fieldFS rfl fi45_0 rfl rfl rfl) ?_
  refine o_run rfl rfl rfl ?_
  refine Pstep.go (st_fieldF1 rfl fi43_2 rfl rfl rfl) ?_
  refine o_run rfl rfl rfl ?_
  refine Pstep.go (st_loadD1 rfl rfl on9 rfl) ?_
  refine o_run rfl rfl rfl ?_
  refine Pstep.go (st_eqlSL rfl rfl rfl) ?_
  refine Pstep.go (st_pickT rfl rfl rfl rfl) ?_
  refine Pstep.go (st_assign rfl rfl) ?_
  refine o_nil ?_
  refine a_ret ?_
  exact ⟨_, [], [], res_of rfl, rfl, rfl, rfl, rfl⟩
theorem refcmpI_p (a b : Int) : PCalls Try.prog 66 [.d (intD a), .d (intD b)] (intD (cmpI a b)) := by
  refine a_enter Try.func66 rfl rfl Try.ntmps66 rfl rfl rfl fun F hF => ?_
  refine a_seq ?_
  refine a_region ?_
  refine Pstep.go (st_assign rfl rfl) ?_
  refine o_nil ?_
  refine a_seq ?_
  refine a_seq ?_
  refine a_region ?_
  refine Pstep.go (st_move rfl rfl) ?_
  refine Pstep.go (st_move rfl rfl) ?_
  refine Pstep.go (st_lss rfl rfl rfl) ?_
  refine o_nil ?_
  refine a_if rfl (fun h7 => ?_) (fun h7 => ?_)
  · refine a_seq ?_
    refine a_region ?_
    refine Pstep.go (st_assign rfl rfl) ?_
    refine o_nil ?_
    refine a_ret ?_
    exact ⟨_, [], [], res_of rfl, rfl, rfl, retI (by unfold cmpI; (repeat' split) <;> omega), rfl⟩
  · refine a_skip ?_
    refine a_seq ?_
    refine a_seq ?_
    refine a_region ?_
    refine Pstep.go (st_move rfl rfl) ?_
    refine Pstep.go (st_move rfl rfl) ?_
    refine Pstep.go (st_gtr rfl rfl rfl) ?_
    refine o_nil ?_
    refine a_if rfl (fun h10 => ?_) (fun h10 => ?_)
    · refine a_seq ?_
      refine a_region ?_
      refine Pstep.go (st_assign rfl rfl) ?_
      refine o_nil ?_
      refine a_ret ?_
      exact ⟨_, [], [], res_of rfl, rfl, rfl, retI (by unfold cmpI; (repeat' split) <;> omega), rfl⟩
    · refine a_skip ?_
      refine a_seq ?_
      refine a_region ?_
      refine Pstep.go (st_assign rfl rfl) ?_
      refine o_nil ?_
      refine a_ret ?_
      exact ⟨_, [], [], res_of rfl, rfl, rfl, retI (by unfold cmpI; (repeat' split) <;> omega), rfl⟩
theorem refcmpS_p (a b : List UInt8) : PCalls Try.prog 67 [.d (strD a), .d (strD b)] (intD (cmpS a b)) := by
  refine a_enter Try.func67 rfl rfl Try.ntmps67 rfl rfl rfl fun F hF => ?_
  refine a_seq ?_
  refine a_region ?_
  refine Pstep.go (st_assign rfl rfl) ?_
  refine o_nil ?_
  refine a_seq ?_
  refine a_seq ?_
  refine a_region ?_
  refine Pstep.go (st_move rfl rfl) ?_
  refine Pstep.go (st_move rfl rfl) ?_
  refine Pstep.go (st_lssS rfl rfl rfl) ?_
  refine o_nil ?_
  refine a_cond rfl (fun h7 => ?_) (fun h7 => ?_)
  · rw [less_toList] at h7
    refine a_seq ?_
    refine a_region ?_
    refine Pstep.go (st_assign rfl rfl) ?_
    refine o_nil ?_
    refine a_ret ?_
    exact ⟨_, [], [], res_of rfl, rfl, rfl, by first | exact retI (by unfold cmpS; rw [if_pos h7]) | exact retI (by unfold cmpS; rw [if_neg (by rw [h7]; decide), if_pos h10]) | exact retI (by unfold cmpS; rw [if_neg (by rw [h7]; decide), if_neg (by rw [h10]; decide)]), rfl⟩
  · rw [less_toList] at h7
    refine a_skip ?_
    refine a_seq ?_
    refine a_seq ?_
    refine a_region ?_
    refine Pstep.go (st_move rfl rfl) ?_
    refine Pstep.go (st_move rfl rfl) ?_
    refine Pstep.go (st_gtrS rfl rfl rfl) ?_
    refine o_nil ?_
    refine a_cond rfl (fun h10 => ?_) (fun h10 => ?_)
    · rw [less_toList] at h10
      refine a_seq ?_
      refine a_region ?_
      refine Pstep.go (st_assign rfl rfl) ?_
      refine o_nil ?_
      refine a_ret ?_
      exact ⟨_, [], [], res_of rfl, rfl, rfl, by first | exact retI (by unfold cmpS; rw [if_pos h7]) | exact retI (by unfold cmpS; rw [if_neg (by rw [h7]; decide), if_pos h10]) | exact retI (by unfold cmpS; rw [if_neg (by rw [h7]; decide), if_neg (by rw [h10]; decide)]), rfl⟩
    · rw [less_toList] at h10
      refine a_skip ?_
      refine a_seq ?_
      refine a_region ?_
      refine Pstep.go (st_assign rfl rfl) ?_
      refine o_nil ?_
      refine a_ret ?_
      exact ⟨_, [], [], res_of rfl, rfl, rfl, by first | exact retI (by unfold cmpS; rw [if_pos h7]) | exact retI (by unfold cmpS; rw [if_neg (by rw [h7]; decide), if_pos h10]) | exact retI (by unfold cmpS; rw [if_neg (by rw [h7]; decide), if_neg (by rw [h10]; decide)]), rfl⟩
end Go.Proofs.Ytfmpiabmnjmobaa

/- Layer 28: the reference's order; conversions. -/
namespace Go.Proofs.Ytfmpiabmnjmobaa
open Go.RowKit

set_option maxRecDepth 100000 in
set_option maxHeartbeats 2000000 in
theorem refcompare_p (a b : Rsc) : PCalls Try.prog 19 [.d (rscD a), .d (rscD b)] (intD (cmpR a b)) := by
  obtain ⟨l, hl⟩ : ∃ l, [cmpI a.k b.k, cmpS a.acc.o b.acc.o, cmpI a.acc.k b.acc.k, cmpS a.acc.a b.acc.a, cmpS a.f b.f, cmpS a.t b.t] = l := ⟨_, rfl⟩
  have hn : l.length = 6 := by rw [← hl]; rfl
  have hR : cmpR a b = fst0 (l.map id) := by rw [← hl]; rfl
  have hm : [intD (cmpI a.k b.k), intD (cmpS a.acc.o b.acc.o), intD (cmpI a.acc.k b.acc.k), intD (cmpS a.acc.a b.acc.a), intD (cmpS a.f b.f), intD (cmpS a.t b.t)] = l.map intD := by rw [← hl]; rfl
  rw [hR]
  refine a_enter Try.func19 rfl rfl Try.ntmps19 rfl rfl rfl fun F hF => ?_
  refine a_seq ?_
  refine a_region ?_
  refine Estep.go (st_box 1 rfl rfl rfl rfl rfl rfl rfl) ?_
  refine Estep.go (st_box 2 rfl rfl rfl rfl rfl rfl rfl) ?_
  refine Pstep.go (st_assign rfl rfl) ?_
  refine o_nil ?_
  refine a_seq ?_
  refine a_drawn [[], [0], [], [2], [0, 1, 2, 3], [], [5], [5, 6], [], [8], [8, 9], [0, 1, 2, 3, 4, 5, 6, 7, 8, 9, 10], [], [12], [12, 13], [], [15], [15, 16], [0, 1, 2, 3, 4, 5, 6, 7, 8, 9, 10, 11, 12, 13, 14, 15, 16, 17], [], [19], [19, 20], [], [22], [22, 23], [0, 1, 2, 3, 4, 5, 6, 7, 8, 9, 10, 11, 12, 13, 14, 15, 16, 17, 18, 19, 20, 21, 22, 23, 24], [], [26], [], [28], [0, 1, 2, 3, 4, 5, 6, 7, 8, 9, 10, 11, 12, 13, 14, 15, 16, 17, 18, 19, 20, 21, 22, 23, 24, 25, 26, 27, 28, 29], [], [31], [], [33], [0, 1, 2, 3, 4, 5, 6, 7, 8, 9, 10, 11, 12, 13, 14, 15, 16, 17, 18, 19, 20, 21, 22, 23, 24, 25, 26, 27, 28, 29, 30, 31, 32, 33, 34], [0, 1, 2, 3, 4, 5, 6, 7, 8, 9, 10, 11, 12, 13, 14, 15, 16, 17, 18, 19, 20, 21, 22, 23, 24, 25, 26, 27, 28, 29, 30, 31, 32, 33, 34, 35], [0, 1, 2, 3, 4, 5, 6, 7, 8, 9, 10, 11, 12, 13, 14, 15, 16, 17, 18, 19, 20, 21, 22, 23, 24, 25, 26, 27, 28, 29, 30, 31, 32, 33, 34, 35, 36]] mixed rfl ?_
  refine dws ?_
  refine d_pure [2] [] rfl rfl (fun _ => gp_none (st_fieldP rfl fi48_0 rfl rfl rfl)) ?_
  refine d_pureA [7] rfl rfl (fun _ => gp_none (st_loadP rfl rfl rfl on3 rfl)) ?_
  refine d_pure [3] [] rfl rfl (fun _ => gp_none (st_fieldP rfl fi48_0 rfl rfl rfl)) ?_
  refine d_pureA [9] rfl rfl (fun _ => gp_none (st_loadP rfl rfl rfl on3 rfl)) ?_
  refine d_pure [8, 10] [] rfl rfl (fun _ => gp_none (st_callP (refcmpI_p a.k b.k) rfl rfl)) ?_
  refine d_pure [2] [] rfl rfl (fun _ => gp_none (st_fieldP rfl fi48_1 rfl rfl rfl)) ?_
  refine d_pure [12] [] rfl rfl (fun _ => gp_none (st_fieldP rfl fi46_0 rfl rfl rfl)) ?_
  refine d_pureA [13] rfl rfl (fun _ => gp_none (st_loadP rfl rfl rfl on9 rfl)) ?_
  refine d_pure [3] [] rfl rfl (fun _ => gp_none (st_fieldP rfl fi48_1 rfl rfl rfl)) ?_
  refine d_pure [15] [] rfl rfl (fun _ => gp_none (st_fieldP rfl fi46_0 rfl rfl rfl)) ?_
  refine d_pureA [16] rfl rfl (fun _ => gp_none (st_loadP rfl rfl rfl on9 rfl)) ?_
  refine d_pure [14, 17] [] rfl rfl (fun _ => gp_none (st_callP (refcmpS_p a.acc.o b.acc.o) rfl rfl)) ?_
  refine d_pure [2] [] rfl rfl (fun _ => gp_none (st_fieldP rfl fi48_1 rfl rfl rfl)) ?_
  refine d_pure [19] [] rfl rfl (fun _ => gp_none (st_fieldP rfl fi46_1 rfl rfl rfl)) ?_
  refine d_pureA [20] rfl rfl (fun _ => gp_none (st_loadP rfl rfl rfl on3 rfl)) ?_
  refine d_pure [3] [] rfl rfl (fun _ => gp_none (st_fieldP rfl fi48_1 rfl rfl rfl)) ?_
  refine d_pure [22] [] rfl rfl (fun _ => gp_none (st_fieldP rfl fi46_1 rfl rfl rfl)) ?_
  refine d_pureA [23] rfl rfl (fun _ => gp_none (st_loadP rfl rfl rfl on3 rfl)) ?_
  refine d_pure [21, 24] [] rfl rfl (fun _ => gp_none (st_callP (refcmpI_p a.acc.k b.acc.k) rfl rfl)) ?_
  refine d_pure [2] [] rfl rfl (fun _ => gp_none (st_fieldP rfl fi48_1 rfl rfl rfl)) ?_
  refine d_pure [26] [] rfl rfl (fun _ => gp_none (st_fieldP rfl fi46_2 rfl rfl rfl)) ?_
  refine d_pureA [27] rfl rfl (fun _ => gp_none (st_loadP rfl rfl rfl on9 rfl)) ?_
  refine d_pure [3] [] rfl rfl (fun _ => gp_none (st_fieldP rfl fi48_1 rfl rfl rfl)) ?_
  refine d_pure [29] [] rfl rfl (fun _ => gp_none (st_fieldP rfl fi46_2 rfl rfl rfl)) ?_
  refine d_pureA [30] rfl rfl (fun _ => gp_none (st_loadP rfl rfl rfl on9 rfl)) ?_
  refine d_pure [28, 31] [] rfl rfl (fun _ => gp_none (st_callP (refcmpS_p a.acc.a b.acc.a) rfl rfl)) ?_
  refine d_pure [2] [] rfl rfl (fun _ => gp_none (st_fieldP rfl fi48_2 rfl rfl rfl)) ?_
  refine d_pureA [33] rfl rfl (fun _ => gp_none (st_loadP rfl rfl rfl on9 rfl)) ?_
  refine d_pure [3] [] rfl rfl (fun _ => gp_none (st_fieldP rfl fi48_2 rfl rfl rfl)) ?_
  refine d_pureA [35] rfl rfl (fun _ => gp_none (st_loadP rfl rfl rfl on9 rfl)) ?_
  refine d_pure [34, 36] [] rfl rfl (fun _ => gp_none (st_callP (refcmpS_p a.f b.f) rfl rfl)) ?_
  refine d_pure [2] [] rfl rfl (fun _ => gp_none (st_fieldP rfl fi48_3 rfl rfl rfl)) ?_
  refine d_pureA [38] rfl rfl (fun _ => gp_none (st_loadP rfl rfl rfl on9 rfl)) ?_
  refine d_pure [3] [] rfl rfl (fun _ => gp_none (st_fieldP rfl fi48_3 rfl rfl rfl)) ?_
  refine d_pureA [40] rfl rfl (fun _ => gp_none (st_loadP rfl rfl rfl on9 rfl)) ?_
  refine dwc 35 rfl rfl rfl ?_
  refine dw1 36 rfl rfl ?_
  refine Pstep.go (st_callP (refcmpS_p a.t b.t) rfl rfl) ?_
  refine o_nil ⟨rfl, ?_⟩
  refine dw1 37 rfl rfl ?_
  refine Estep.go (st_buildSlice 3 sl24 rfl rfl rfl rfl rfl rfl rfl rfl) ?_
  rw [hm]
  refine o_freezeM (emb := intD) 43 3 l rfl rfl rfl hn.symm rfl rfl rfl ?_
  refine o_nil ⟨rfl, ?_⟩
  refine dw1 38 rfl rfl ?_
  refine Pstep.go (st_assign rfl rfl) ?_
  refine o_nil ⟨rfl, ?_⟩
  refine dwe ?_
  refine a_seq ?_
  refine a_seq ?_
  refine a_region ?_
  refine Pstep.go (st_assign rfl rfl) ?_
  refine o_nil ?_
  refine a_block ?_
  refine a_loopP (α := Nat) (fun k => ⟨59, [(5, (.d (.sl none (l.map intD)))), (6, (.d (intD (k : Int))))], []⟩) (fun k => k ≤ l.length ∧ fst0 (l.map id) = fst0 ((l.drop k).map id)) (fun k => l.length - k) (0) (⟨Nat.zero_le _, rfl⟩) (lep_of hF [] rfl rfl ⟨rfl, rfl, trivial⟩) ?_
  rintro k ⟨hk0, hk⟩
  refine a_seq ?_
  refine a_seq ?_
  refine a_region ?_
  refine Pstep.go (st_move rfl rfl) ?_
  refine Pstep.go (st_move rfl rfl) ?_
  refine Pstep.go (st_lenMap rfl Try.underlying24 rfl) ?_
  refine Pstep.go (st_lss rfl rfl rfl) ?_
  refine o_nil ?_
  refine a_if rfl (fun h47 => ?_) (fun h47 => ?_)
  · have hk1 : k < l.length := lt_cast h47
    refine a_skip ?_
    refine a_seq ?_
    refine a_block ?_
    refine a_seq ?_
    refine a_region ?_
    have hE := fst0_cases hk1 hk
    refine Pstep.go (st_move rfl rfl) ?_
    refine Pstep.go (st_move rfl rfl) ?_
    refine Pstep.go (st_indexD (k) rfl rfl (rfl) (getm hk1) Try.underlying24 rfl sz3 rfl) ?_
    refine Pstep.go (st_loadD1 rfl rfl on3 rfl) ?_
    refine Pstep.go (st_neq rfl rfl rfl) ?_
    refine o_nil ?_
    refine a_if rfl (fun h54 => ?_) (fun h54 => ?_)
    · refine a_seq ?_
      refine a_region ?_
      refine Pstep.go (st_move rfl rfl) ?_
      refine Pstep.go (st_move rfl rfl) ?_
      refine Pstep.go (st_indexD (k) rfl rfl (rfl) (getm hk1) Try.underlying24 rfl sz3 rfl) ?_
      refine Pstep.go (st_loadD1 rfl rfl on3 rfl) ?_
      refine Pstep.go (st_assign rfl rfl) ?_
      refine o_nil ?_
      refine a_ret ?_
      exact ⟨_, [], [], res_of rfl, rfl, rfl, retI (hE.2 l[k] rfl (by simpa using h54)), rfl⟩
    · refine a_skip ?_
      refine a_region ?_
      refine Pstep.go (st_move rfl rfl) ?_
      refine Pstep.go (st_add rfl rfl (wrapS (k + 1) (by omega)) rfl) ?_
      refine Pstep.go (st_assign rfl rfl) ?_
      refine o_nil ?_
      exact ⟨k + 1, ⟨by show k + 1 ≤ _; omega, hE.1 (by simpa using h54)⟩, by show l.length - (k + 1) < l.length - k; omega, lep_of hF [] rfl (rfl) ⟨rfl, rfl, trivial⟩⟩
  · refine a_exit ?_
    refine a_seq ?_
    refine a_region ?_
    refine Pstep.go (st_assign rfl rfl) ?_
    refine o_nil ?_
    refine a_ret ?_
    exact ⟨_, [], [], res_of rfl, rfl, rfl, retI (by rw [hk, fst0_end (by have h := h47; omega)]), rfl⟩
set_option maxRecDepth 100000 in
theorem ownres_p (r : Rsc) : PCalls Try.prog 18 [.d (rscD r)] (rscD r) := by
  refine a_enter Try.func18 rfl rfl Try.ntmps18 rfl rfl rfl fun F hF => ?_
  refine a_seq ?_
  refine a_region ?_
  refine Estep.go (st_box 1 rfl rfl rfl rfl rfl rfl rfl) ?_
  refine Estep.go (st_alloc 2 zl43 rfl rfl rfl rfl) ?_
  refine o_nil ?_
  refine a_seq ?_
  refine a_region ?_
  refine Pstep.go (st_fieldP rfl fi48_0 rfl rfl rfl) ?_
  refine Pstep.go (st_loadP rfl rfl rfl on3 rfl) ?_
  refine Pstep.go (st_fieldP rfl fi48_1 rfl rfl rfl) ?_
  refine Pstep.go (st_loadPS rfl rfl rw46 rfl rfl rfl) ?_
  refine Pstep.go (st_fieldP rfl fi48_2 rfl rfl rfl) ?_
  refine Pstep.go (st_loadP rfl rfl rfl on9 rfl) ?_
  refine Pstep.go (st_fieldP rfl fi48_3 rfl rfl rfl) ?_
  refine Pstep.go (st_loadP rfl rfl rfl on9 rfl) ?_
  refine Pstep.go (st_build zl43 pl43 rfl rfl rfl) ?_
  refine Estep.go (st_storeP rfl rfl rfl rfl rfl rfl rfl sz43) ?_
  refine o_nil ?_
  refine a_ret ?_
  exact ⟨_, [], [], res_of rfl, rfl, rfl, rfl, rfl⟩
end Go.Proofs.Ytfmpiabmnjmobaa

/- Layer 28: conversion of items. -/
namespace Go.Proofs.Ytfmpiabmnjmobaa
open Go.RowKit

theorem tk_next {α : Type} {acc l : List α} (h : acc = l.take acc.length) (hk : acc.length < l.length) : acc ++ [l[acc.length]] = l.take (acc ++ [l[acc.length]]).length := by
  rw [List.length_append, List.length_singleton, List.take_succ_eq_append_getElem hk, ← h]
theorem tk_end {α : Type} {acc l : List α} (h : acc = l.take acc.length) (hk : ¬ acc.length < l.length) : acc = l := by
  rw [h]; exact List.take_of_length_le (by omega)
theorem wrapA {α : Type} (acc : List α) (x : α) (h : acc.length < 9223372036854775807) : IntKind.i64.wrap ((acc.length : Int) + 1) = (((acc ++ [x]).length : Nat) : Int) := by
  rw [List.length_append]; exact wrapS (acc.length + 1) (by omega)
abbrev nilC : AV := .d (.sl (some true) [])
set_option maxRecDepth 100000 in
theorem ownitem_p (i : Itm) (g1 : i.po.length ≤ 10000) (g2 : i.pa.length ≤ 10000) (g3 : i.af.length ≤ 10000) : PCalls Try.prog 13 [.d (itmD i)] (itmD i) := by
  refine a_enter Try.func13 rfl rfl Try.ntmps13 rfl rfl rfl fun F hF => ?_
  refine a_seq ?_
  refine a_region ?_
  refine Estep.go (st_box 1 rfl rfl rfl rfl rfl rfl rfl) ?_
  refine Estep.go (st_alloc 2 zl33 rfl rfl rfl rfl) ?_
  refine o_nil ?_
  refine a_seq ?_
  refine a_drawn [[], [0], [], [2], [], [4], [], [], [7], [6, 7, 8], [0, 1, 2, 3, 4, 5, 6, 7, 8, 9], [], [0, 1, 2, 3, 4, 5, 6, 7, 8, 9, 10, 11]] mixed rfl ?_
  refine dws ?_
  refine d_pure [1] [] rfl rfl (fun _ => gp_none (st_fieldP rfl fi26_0 rfl rfl rfl)) ?_
  refine d_pureA [6] rfl rfl (fun _ => gp_none (st_loadP rfl rfl rfl on3 rfl)) ?_
  refine d_pure [1] [] rfl rfl (fun _ => gp_none (st_fieldP rfl fi26_1 rfl rfl rfl)) ?_
  refine d_pureA [8] rfl rfl (fun _ => gp_none (st_loadP rfl rfl rfl on3 rfl)) ?_
  refine d_pure [1] [] rfl rfl (fun _ => gp_none (st_fieldP rfl fi26_2 rfl rfl rfl)) ?_
  refine d_pureA [10] rfl rfl (fun _ => gp_none (st_loadP rfl rfl rfl on3 rfl)) ?_
  refine d_eff [] [3] [(12, _)] rfl rfl (fun _ => ge_none (st_buildSlice 3 sl24 rfl rfl rfl rfl rfl rfl rfl rfl)) (.inr ⟨12, _, rfl, rfl, rfl, rfl, rfl⟩) rfl rfl rfl rfl rfl ?_
  refine d_pure [1] [] rfl rfl (fun _ => gp_none (st_fieldP rfl fi26_5 rfl rfl rfl)) ?_
  refine d_pureA [13] rfl rfl (fun _ => gp_none (st_loadP rfl rfl rfl on24 rfl)) ?_
  refine d_eff [12, 14] [3] [(15, _)] rfl rfl (fun _ => ge_none (st_appMD (([] : List Int)) (i.af) rfl rfl rfl rfl rfl rfl (fun _ => rfl) sl24 (by simp only [List.length_nil]; omega) rfl rfl rfl rfl)) (.inr ⟨15, _, rfl, rfl, rfl, rfl, rfl⟩) rfl rfl rfl rfl rfl ?_
  refine d_pure [7, 9, 11, 15] [] rfl rfl (fun _ => gp_none (st_build zl33 pl33 rfl rfl rfl)) ?_
  refine d_eff [] [4] [(3, _)] rfl rfl (fun _ => ge_none (st_alloc 4 zl33 rfl rfl rfl rfl)) (.inr ⟨3, _, rfl, rfl, rfl, rfl, rfl⟩) rfl rfl rfl rfl rfl ?_
  refine dwc 12 rfl rfl rfl ?_
  refine dw1 13 rfl rfl ?_
  refine Estep.go (st_storeP rfl rfl rfl rfl rfl rfl rfl sz33) ?_
  refine o_nil ⟨rfl, ?_⟩
  refine dwe ?_
  refine a_seq ?_
  refine a_seq ?_
  refine a_freezeC (ys := i.af.map intD) 4 0 5 3 rfl rfl rfl (by simp) (List.take_of_length_le (by simp)) rfl rfl rfl rfl rfl rfl ?_
  refine a_adoptC 4 0 3 901 sl30 rfl rfl rfl rfl rfl rfl rfl ?_
  refine a_region ?_
  refine Pstep.go (st_assign rfl rfl) ?_
  refine o_nil ?_
  refine a_block ?_
  refine a_loopP (α := List Post) (fun acc => ⟨60, [(1, (.ptr 1 0 0)), (2, (.ptr 2 0 0)), (3, (.ptr 4 0 0)), (4, (.d (intD (acc.length : Int))))], [(901, [.rowD 106 4 (acc.map postD)]), (1, [.blk 26 [.d (intD i.id), .d (intD i.pr), .d (intD i.sq), .d (.sl none (i.po.map postD)), .d (.sl none (i.pa.map payD)), .d (.sl none (i.af.map intD))]]), (2, [.blk 33 [.d (intD 0), .d (intD 0), .d (intD 0), nilC, nilC, nilC]]), (4, [.blk 33 [.d (intD i.id), .d (intD i.pr), .d (intD i.sq), .own 901 0 acc.length, nilC, .d (.sl none (i.af.map intD))]])]⟩) (fun acc => acc = i.po.take acc.length ∧ acc.length ≤ i.po.length) (fun acc => i.po.length - acc.length) ([]) (⟨by simp, Nat.zero_le _⟩) (lep_of hF [901, 1, 2, 4] rfl rfl ⟨rfl, rfl, rfl, rfl, trivial⟩) ?_
  rintro acc ⟨hI, hk0⟩
  refine a_seq ?_
  refine a_seq ?_
  refine a_region ?_
  refine Pstep.go (st_move rfl rfl) ?_
  refine Pstep.go (st_fieldP rfl fi26_3 rfl rfl rfl) ?_
  refine Pstep.go (st_loadP rfl rfl rfl on22 rfl) ?_
  refine Pstep.go (st_lenMap rfl Try.underlying22 rfl) ?_
  refine Pstep.go (st_lss rfl rfl rfl) ?_
  refine o_nil ?_
  refine a_if rfl (fun h21 => ?_) (fun h21 => ?_)
  · have hk1 : acc.length < i.po.length := lt_cast h21
    refine a_skip ?_
    refine a_seq ?_
    refine a_block ?_
    refine a_drawn [[], [0], [], [2], [], [2, 3, 4], [2, 3, 4, 5], [2, 3, 4, 5, 6], [], [8], [], [8, 9, 10], [8, 9, 10, 11], [8, 9, 10, 11, 12], [2, 3, 4, 5, 6, 7, 8, 9, 10, 11, 12, 13], [2, 3, 4, 5, 6, 7, 8, 9, 10, 11, 12, 13, 14], [0, 1, 2, 3, 4, 5, 6, 7, 8, 9, 10, 11, 12, 13, 14, 15], [0, 1, 2, 3, 4, 5, 6, 7, 8, 9, 10, 11, 12, 13, 14, 15, 16], [0, 1, 2, 3, 4, 5, 6, 7, 8, 9, 10, 11, 12, 13, 14, 15, 16, 17]] mixed rfl ?_
    refine dws ?_
    refine d_pure [3] [] rfl rfl (fun _ => gp_none (st_fieldP rfl fi33_3 rfl rfl rfl)) ?_
    refine d_pureA [24] rfl rfl (fun _ => gp_none (st_loadP rfl rfl rfl on30 rfl)) ?_
    refine d_pure [1] [] rfl rfl (fun _ => gp_none (st_fieldP rfl fi26_3 rfl rfl rfl)) ?_
    refine d_pureA [26] rfl rfl (fun _ => gp_none (st_loadP rfl rfl rfl on22 rfl)) ?_
    refine d_pure [4] [] rfl rfl (fun _ => gp_none (st_move rfl rfl)) ?_
    refine d_pure [27, 28] [] rfl rfl (fun _ => gp_none (st_indexD (acc.length) rfl rfl (rfl) (getm hk1) Try.underlying22 rfl sz104 rfl)) ?_
    refine d_pure [29] [] rfl rfl (fun _ => gp_none (st_fieldFS rfl fi104_0 rfl rfl rfl)) ?_
    refine d_pure [30] [] rfl rfl (fun _ => gp_none (st_loadDS rfl rfl rw46 rfl)) ?_
    refine d_pure [1] [] rfl rfl (fun _ => gp_none (st_fieldP rfl fi26_3 rfl rfl rfl)) ?_
    refine d_pureA [32] rfl rfl (fun _ => gp_none (st_loadP rfl rfl rfl on22 rfl)) ?_
    refine d_pure [4] [] rfl rfl (fun _ => gp_none (st_move rfl rfl)) ?_
    refine d_pure [33, 34] [] rfl rfl (fun _ => gp_none (st_indexD (acc.length) rfl rfl (rfl) (getm hk1) Try.underlying22 rfl sz104 rfl)) ?_
    refine d_pure [35] [] rfl rfl (fun _ => gp_none (st_fieldF1 rfl fi104_1 rfl rfl rfl)) ?_
    refine d_pure [36] [] rfl rfl (fun _ => gp_none (st_loadD1 rfl rfl on2 rfl)) ?_
    refine d_pure [31, 37] [] rfl rfl (fun _ => gp_none (st_build zl106 pl106 rfl rfl rfl)) ?_
    refine d_eff [38] [5] [(39, _)] rfl rfl (fun _ => ge_none (st_buildSlice 5 sl30 rfl rfl rfl rfl rfl rfl rfl rfl)) (.inr ⟨39, _, rfl, rfl, rfl, rfl, rfl⟩) rfl rfl rfl rfl rfl ?_
    refine dwc 16 rfl rfl rfl ?_
    refine dw1 17 rfl rfl ?_
    refine Estep.go (st_appM (acc) ([i.po[acc.length]]) rfl rfl rfl rfl rfl rfl rfl rfl sl30 (by simp only [List.length_singleton]; omega) rfl rfl rfl rfl) ?_
    refine o_nil ⟨rfl, ?_⟩
    refine dw1 18 rfl rfl ?_
    refine Pstep.go (st_fieldP rfl fi33_3 rfl rfl rfl) ?_
    refine o_nil ⟨rfl, ?_⟩
    refine dw1 19 rfl rfl ?_
    refine Estep.go (st_storeP rfl rfl rfl rfl rfl rfl rfl sz30) ?_
    refine o_nil ⟨rfl, ?_⟩
    refine dwe ?_
    refine a_region ?_
    refine Pstep.go (st_move rfl rfl) ?_
    refine Pstep.go (st_add rfl rfl (wrapA acc i.po[acc.length] (by omega)) rfl) ?_
    refine Pstep.go (st_assign rfl rfl) ?_
    refine o_nil ?_
    exact ⟨acc ++ [i.po[acc.length]], ⟨tk_next hI hk1, by rw [List.length_append]; show acc.length + 1 ≤ _; omega⟩, by rw [List.length_append]; show i.po.length - (acc.length + 1) < i.po.length - acc.length; omega, lep_of hF [901, 1, 2, 4] rfl (rfl) ⟨rfl, rfl, rfl, rfl, trivial⟩⟩
  · refine a_exit ?_
    refine a_seq ?_
    refine a_seq ?_
    have hacc := tk_end hI (fun h => h21 (by omega))
    refine a_freezeC (ys := i.po.map postD) 4 0 3 901 rfl rfl rfl (by simp) (by rw [hacc]; exact List.take_of_length_le (by simp)) rfl rfl rfl rfl rfl rfl ?_
    refine a_adoptC 4 0 4 902 sl31 rfl rfl rfl rfl rfl rfl rfl ?_
    refine a_region ?_
    refine Pstep.go (st_assign rfl rfl) ?_
    refine o_nil ?_
    refine a_block ?_
    refine a_loopP (α := List Pay) (fun acc2 => ⟨60, [(1, (.ptr 1 0 0)), (2, (.ptr 2 0 0)), (3, (.ptr 4 0 0)), (5, (.d (intD (acc2.length : Int))))], [(902, [.rowD 108 3 (acc2.map payD)]), (1, [.blk 26 [.d (intD i.id), .d (intD i.pr), .d (intD i.sq), .d (.sl none (i.po.map postD)), .d (.sl none (i.pa.map payD)), .d (.sl none (i.af.map intD))]]), (2, [.blk 33 [.d (intD 0), .d (intD 0), .d (intD 0), nilC, nilC, nilC]]), (4, [.blk 33 [.d (intD i.id), .d (intD i.pr), .d (intD i.sq), .d (.sl none (i.po.map postD)), .own 902 0 acc2.length, .d (.sl none (i.af.map intD))]])]⟩) (fun acc2 => acc2 = i.pa.take acc2.length ∧ acc2.length ≤ i.pa.length) (fun acc2 => i.pa.length - acc2.length) ([]) (⟨by simp, Nat.zero_le _⟩) (lep_of hF [902, 1, 2, 4] rfl rfl ⟨rfl, rfl, rfl, rfl, trivial⟩) ?_
    rintro acc2 ⟨hJ, hk2⟩
    refine a_seq ?_
    refine a_seq ?_
    refine a_region ?_
    refine Pstep.go (st_move rfl rfl) ?_
    refine Pstep.go (st_fieldP rfl fi26_4 rfl rfl rfl) ?_
    refine Pstep.go (st_loadP rfl rfl rfl on23 rfl) ?_
    refine Pstep.go (st_lenMap rfl Try.underlying23 rfl) ?_
    refine Pstep.go (st_lss rfl rfl rfl) ?_
    refine o_nil ?_
    refine a_if rfl (fun h46 => ?_) (fun h46 => ?_)
    · have hk3 : acc2.length < i.pa.length := lt_cast h46
      refine a_skip ?_
      refine a_seq ?_
      refine a_block ?_
      refine a_drawn [[], [0], [], [2], [], [2, 3, 4], [2, 3, 4, 5], [2, 3, 4, 5, 6], [0, 1, 2, 3, 4, 5, 6, 7], [0, 1, 2, 3, 4, 5, 6, 7, 8], [0, 1, 2, 3, 4, 5, 6, 7, 8, 9]] mixed rfl ?_
      refine dws ?_
      refine d_pure [3] [] rfl rfl (fun _ => gp_none (st_fieldP rfl fi33_4 rfl rfl rfl)) ?_
      refine d_pureA [49] rfl rfl (fun _ => gp_none (st_loadP rfl rfl rfl on31 rfl)) ?_
      refine d_pure [1] [] rfl rfl (fun _ => gp_none (st_fieldP rfl fi26_4 rfl rfl rfl)) ?_
      refine d_pureA [51] rfl rfl (fun _ => gp_none (st_loadP rfl rfl rfl on23 rfl)) ?_
      refine d_pure [5] [] rfl rfl (fun _ => gp_none (st_move rfl rfl)) ?_
      refine d_pure [52, 53] [] rfl rfl (fun _ => gp_none (st_indexD (acc2.length) rfl rfl (rfl) (getm hk3) Try.underlying23 rfl sz109 rfl)) ?_
      refine d_pure [54] [] rfl rfl (fun _ => gp_none (st_loadDS rfl rfl rw109 rfl)) ?_
      refine d_eff [55] [6] [(56, _)] rfl rfl (fun _ => ge_none (st_buildSlice 6 sl31 rfl rfl rfl rfl rfl rfl rfl rfl)) (.inr ⟨56, _, rfl, rfl, rfl, rfl, rfl⟩) rfl rfl rfl rfl rfl ?_
      refine dwc 8 rfl rfl rfl ?_
      refine dw1 9 rfl rfl ?_
      refine Estep.go (st_appM (acc2) ([i.pa[acc2.length]]) rfl rfl rfl rfl rfl rfl rfl rfl sl31 (by simp only [List.length_singleton]; omega) rfl rfl rfl rfl) ?_
      refine o_nil ⟨rfl, ?_⟩
      refine dw1 10 rfl rfl ?_
      refine Pstep.go (st_fieldP rfl fi33_4 rfl rfl rfl) ?_
      refine o_nil ⟨rfl, ?_⟩
      refine dw1 11 rfl rfl ?_
      refine Estep.go (st_storeP rfl rfl rfl rfl rfl rfl rfl sz31) ?_
      refine o_nil ⟨rfl, ?_⟩
      refine dwe ?_
      refine a_region ?_
      refine Pstep.go (st_move rfl rfl) ?_
      refine Pstep.go (st_add rfl rfl (wrapA acc2 i.pa[acc2.length] (by omega)) rfl) ?_
      refine Pstep.go (st_assign rfl rfl) ?_
      refine o_nil ?_
      exact ⟨acc2 ++ [i.pa[acc2.length]], ⟨tk_next hJ hk3, by rw [List.length_append]; show acc2.length + 1 ≤ _; omega⟩, by rw [List.length_append]; show i.pa.length - (acc2.length + 1) < i.pa.length - acc2.length; omega, lep_of hF [902, 1, 2, 4] rfl (rfl) ⟨rfl, rfl, rfl, rfl, trivial⟩⟩
    · refine a_exit ?_
      refine a_seq ?_
      have hacc2 := tk_end hJ (fun h => h46 (by omega))
      refine a_freezeC (ys := i.pa.map payD) 4 0 4 902 rfl rfl rfl (by simp) (by rw [hacc2]; exact List.take_of_length_le (by simp)) rfl rfl rfl rfl rfl rfl ?_
      refine a_region ?_
      refine Pstep.go (st_loadPS rfl rfl rw33 rfl rfl rfl) ?_
      refine Estep.go (st_storeP rfl rfl rfl rfl rfl rfl rfl sz33) ?_
      refine o_nil ?_
      refine a_ret ?_
      exact ⟨_, [], [], res_of rfl, rfl, rfl, rfl, rfl⟩
end Go.Proofs.Ytfmpiabmnjmobaa
