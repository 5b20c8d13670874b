/- Proved here: feasibleClosure_holds, the given statement Rows.FeasibleClosureSaid: the law girolaw29.FeasibleClosure returns true and does not panic, at every input that the statement speaks of; no condition beyond the statement. -/
/- Layer 29: the example of the chapter, walked. -/
import Derived.Test.YtnamabifclidmaaGreatMg22
namespace Go.Proofs.YtnamabifclidmaaGreat
open Go.RowKit

set_option maxRecDepth 100000 in
theorem known29_p : PCalls Tryz.prog 14 [] (.raw (.bool true)) := by
  have y1 := pay29_p 1 1 5 [65] [66] (by decide) (by decide)
  have y2 := pay29_p 2 2 5 [66] [65] (by decide) (by decide)
  have y3 := pay29_p 3 3 1 [65] [66] (by decide) (by decide)
  refine a_enter Tryz.func14 rfl rfl Tryz.ntmps14 rfl rfl rfl fun F hF => ?_
  refine a_seq ?_
  refine a_region ?_
  refine Pstep.go (st_assign rfl rfl) ?_
  refine o_nil ?_
  refine a_seq ?_
  refine a_region ?_
  refine Pstep.go (st_build zl45 pl45 rfl rfl rfl) ?_
  refine Pstep.go (st_build zl47 pl47 rfl rfl rfl) ?_
  refine Pstep.go (st_build zl45 pl45 rfl rfl rfl) ?_
  refine Pstep.go (st_build zl47 pl47 rfl rfl rfl) ?_
  refine Estep.go (st_alloc 1 zl47 rfl rfl rfl rfl) ?_
  refine Estep.go (st_alloc 2 zl47 rfl rfl rfl rfl) ?_
  refine Estep.go (st_storeP rfl rfl rfl rfl rfl rfl rfl sz47) ?_
  refine Estep.go (st_storeP rfl rfl rfl rfl rfl rfl rfl sz47) ?_
  refine o_nil ?_
  refine a_seq ?_
  refine a_drawn [[], [0], [], [2], [0, 1, 2, 3], [], [5], [5, 6], [0, 1, 2, 3, 4, 5, 6, 7], [], [0, 1, 2, 3, 4, 5, 6, 7, 8, 9]] mixed rfl ?_
  refine dws ?_
  refine d_pure [1] [1] rfl rfl (fun _ => gp_none (st_loadPS rfl rfl rw47 rfl rfl rfl)) ?_
  refine d_pure [19] [] rfl rfl (fun _ => gp_none (st_build zl70 pl70 rfl rfl rfl)) ?_
  refine d_pure [2] [2] rfl rfl (fun _ => gp_none (st_loadPS rfl rfl rw47 rfl rfl rfl)) ?_
  refine d_pure [21] [] rfl rfl (fun _ => gp_none (st_build zl70 pl70 rfl rfl rfl)) ?_
  refine d_eff [20, 22] [10] [(23, _)] rfl rfl (fun _ => ge_none (st_buildSlice 10 sl32 rfl rfl rfl rfl rfl rfl rfl rfl)) (.inr ⟨23, _, rfl, rfl, rfl, rfl, rfl⟩) rfl rfl rfl rfl rfl ?_
  refine d_pure [] [] rfl rfl (fun _ => gp_none (st_callP (y1) rfl rfl)) ?_
  refine d_pure [] [] rfl rfl (fun _ => gp_none (st_callP (y2) rfl rfl)) ?_
  refine d_eff [24, 25] [11] [(26, _)] rfl rfl (fun _ => ge_none (st_buildSlice 11 sl33 rfl rfl rfl rfl rfl rfl rfl rfl)) (.inr ⟨26, _, rfl, rfl, rfl, rfl, rfl⟩) rfl rfl rfl rfl rfl ?_
  refine d_pure [23, 26] [] rfl rfl (fun _ => gp_none (st_build zl35 pl35 rfl rfl rfl)) ?_
  refine d_eff [] [5] [(3, _)] rfl rfl (fun _ => ge_none (st_alloc 5 zl35 rfl rfl rfl rfl)) (.inr ⟨3, _, rfl, rfl, rfl, rfl, rfl⟩) rfl rfl rfl rfl rfl ?_
  refine dwc 10 rfl rfl rfl ?_
  refine dw1 11 rfl rfl ?_
  refine Estep.go (st_storeP rfl rfl rfl rfl rfl rfl rfl sz35) ?_
  refine o_nil ⟨rfl, ?_⟩
  refine dwe ?_
  refine a_seq ?_
  refine a_freezeC (ys := rosK.map rooD) 5 0 0 10 rfl rfl rfl (by decide) rfl rfl rfl rfl rfl rfl rfl ?_
  refine a_region ?_
  refine Pstep.go (st_loadPS rfl rfl rw35 rfl rfl rfl) ?_
  refine Pstep.go (st_callPB [11] kn_cnt (by exact ⟨.inr ⟨_, _, rfl, snap_prb pK2 rfl rfl rfl, rfl⟩, trivial⟩) rfl rfl) ?_
  refine Pstep.go (st_move rfl rfl) ?_
  refine Pstep.go (st_extractD rfl rfl rfl) ?_
  refine Pstep.go (st_extractD rfl rfl rfl) ?_
  refine Pstep.go (st_extractD rfl rfl rfl) ?_
  refine Pstep.go (st_assign rfl rfl) ?_
  refine Pstep.go (st_assign rfl rfl) ?_
  refine Pstep.go (st_assign rfl rfl) ?_
  refine o_nil ?_
  refine a_seq ?_
  refine a_region ?_
  refine Pstep.go (st_loadPS rfl rfl rw35 rfl rfl rfl) ?_
  refine Estep.go (st_buildSlice 12 sl26 rfl rfl rfl rfl rfl rfl rfl rfl) ?_
  refine o_freezeM (emb := intD) 36 12 [2, 1] rfl rfl rfl rfl rfl rfl rfl ?_
  refine Pstep.go (st_callPB [11] kn_f21 (by exact ⟨.inr ⟨_, _, rfl, snap_prb pK2 rfl rfl rfl, rfl⟩, .inl rfl, trivial⟩) rfl rfl) ?_
  refine Pstep.go (st_move rfl rfl) ?_
  refine Pstep.go (st_extractD rfl rfl rfl) ?_
  refine Pstep.go (st_extractD rfl rfl rfl) ?_
  refine Pstep.go (st_assign rfl rfl) ?_
  refine Pstep.go (st_assign rfl rfl) ?_
  refine o_nil ?_
  refine a_seq ?_
  refine a_region ?_
  refine Pstep.go (st_loadPS rfl rfl rw35 rfl rfl rfl) ?_
  refine Estep.go (st_buildSlice 13 sl26 rfl rfl rfl rfl rfl rfl rfl rfl) ?_
  refine o_freezeM (emb := intD) 42 13 [1] rfl rfl rfl rfl rfl rfl rfl ?_
  refine Pstep.go (st_callPB [11] kn_f1 (by exact ⟨.inr ⟨_, _, rfl, snap_prb pK2 rfl rfl rfl, rfl⟩, .inl rfl, trivial⟩) rfl rfl) ?_
  refine Pstep.go (st_move rfl rfl) ?_
  refine Pstep.go (st_extractD rfl rfl rfl) ?_
  refine Pstep.go (st_extractD rfl rfl rfl) ?_
  refine Pstep.go (st_assign rfl rfl) ?_
  refine Pstep.go (st_assign rfl rfl) ?_
  refine o_nil ?_
  refine a_seq ?_
  refine a_drawn [[], [0], [], [2], [0, 1, 2, 3], [0, 1, 2, 3, 4], [0, 1, 2, 3, 4, 5]] mixed rfl ?_
  refine dws ?_
  refine d_pure [3] [] rfl rfl (fun _ => gp_none (st_fieldP rfl fi35_1 rfl rfl rfl)) ?_
  refine d_pure [46] [5, 11] rfl rfl (fun _ => gp_none (st_loadP rfl rfl rfl on33 rfl)) ?_
  refine d_pure [] [] rfl rfl (fun _ => gp_none (st_callP (y3) rfl rfl)) ?_
  refine d_eff [48] [14] [(49, _)] rfl rfl (fun _ => ge_none (st_buildSlice 14 sl33 rfl rfl rfl rfl rfl rfl rfl rfl)) (.inr ⟨49, _, rfl, rfl, rfl, rfl, rfl⟩) rfl rfl rfl rfl rfl ?_
  refine dwc 4 rfl rfl rfl ?_
  refine dw1 5 rfl rfl ?_
  refine Estep.go (st_appM (itsK) ([itK3]) rfl rfl rfl rfl rfl rfl rfl rfl sl33 (by decide) rfl rfl rfl rfl) ?_
  refine o_nil ⟨rfl, ?_⟩
  refine dw1 6 rfl rfl ?_
  refine Pstep.go (st_fieldP rfl fi35_1 rfl rfl rfl) ?_
  refine o_nil ⟨rfl, ?_⟩
  refine dw1 7 rfl rfl ?_
  refine Estep.go (st_storeP rfl rfl rfl rfl rfl rfl rfl sz33) ?_
  refine o_nil ⟨rfl, ?_⟩
  refine dwe ?_
  refine a_seq ?_
  refine a_region ?_
  refine Pstep.go (st_loadPS rfl rfl rw35 rfl rfl rfl) ?_
  refine Estep.go (st_buildSlice 15 sl26 rfl rfl rfl rfl rfl rfl rfl rfl) ?_
  refine o_freezeM (emb := intD) 54 15 [3] rfl rfl rfl rfl rfl rfl rfl ?_
  refine Pstep.go (st_callPB [11] kn_a3 (by exact ⟨.inr ⟨_, _, rfl, snap_prb pK3 rfl rfl rfl, rfl⟩, .inl rfl, trivial⟩) rfl rfl) ?_
  refine Pstep.go (st_move rfl rfl) ?_
  refine Pstep.go (st_extractD rfl rfl rfl) ?_
  refine Pstep.go (st_extractD rfl rfl rfl) ?_
  refine Pstep.go (st_assign rfl rfl) ?_
  refine Pstep.go (st_assign rfl rfl) ?_
  refine o_nil ?_
  refine a_seq ?_
  refine a_freezeC (ys := (itsK ++ [itK3]).map itmD) 5 0 1 11 rfl rfl rfl (by decide) rfl rfl rfl rfl rfl rfl rfl ?_
  refine a_region ?_
  refine Pstep.go (st_loadPS rfl rfl rw35 rfl rfl rfl) ?_
  refine Estep.go (st_buildSlice 16 sl26 rfl rfl rfl rfl rfl rfl rfl rfl) ?_
  refine o_freezeM (emb := intD) 60 16 [1, 2, 3] rfl rfl rfl rfl rfl rfl rfl ?_
  refine Pstep.go (st_callP (kn_v) rfl rfl) ?_
  refine Pstep.go (st_move rfl rfl) ?_
  refine Pstep.go (st_extractD rfl rfl rfl) ?_
  refine Pstep.go (st_extractD rfl rfl rfl) ?_
  refine Pstep.go (st_assign rfl rfl) ?_
  refine Pstep.go (st_assign rfl rfl) ?_
  refine o_nil ?_
  refine a_seq ?_
  refine a_drawn [[], [0], [0, 1], [0, 1, 2], [0, 1, 2, 3], [0, 1, 2, 3, 4], [0, 1, 2, 3, 4, 5], [0, 1, 2, 3, 4, 5, 6], [0, 1, 2, 3, 4, 5, 6, 7], [0, 1, 2, 3, 4, 5, 6, 7, 8], [0, 1, 2, 3, 4, 5, 6, 7, 8, 9], [0, 1, 2, 3, 4, 5, 6, 7, 8, 9, 10], [0, 1, 2, 3, 4, 5, 6, 7, 8, 9, 10, 11], [0, 1, 2, 3, 4, 5, 6, 7, 8, 9, 10, 11, 12], [0, 1, 2, 3, 4, 5, 6, 7, 8, 9, 10, 11, 12, 13], [0, 1, 2, 3, 4, 5, 6, 7, 8, 9, 10, 11, 12, 13, 14], [0, 1, 2, 3, 4, 5, 6, 7, 8, 9, 10, 11, 12, 13, 14, 15], [0, 1, 2, 3, 4, 5, 6, 7, 8, 9, 10, 11, 12, 13, 14, 15, 16], [0, 1, 2, 3, 4, 5, 6, 7, 8, 9, 10, 11, 12, 13, 14, 15, 16, 17], [0, 1, 2, 3, 4, 5, 6, 7, 8, 9, 10, 11, 12, 13, 14, 15, 16, 17, 18], [0, 1, 2, 3, 4, 5, 6, 7, 8, 9, 10, 11, 12, 13, 14, 15, 16, 17, 18, 19], [0, 1, 2, 3, 4, 5, 6, 7, 8, 9, 10, 11, 12, 13, 14, 15, 16, 17, 18, 19, 20], [0, 1, 2, 3, 4, 5, 6, 7, 8, 9, 10, 11, 12, 13, 14, 15, 16, 17, 18, 19, 20, 21], [0, 1, 2, 3, 4, 5, 6, 7, 8, 9, 10, 11, 12, 13, 14, 15, 16, 17, 18, 19, 20, 21, 22], [0, 1, 2, 3, 4, 5, 6, 7, 8, 9, 10, 11, 12, 13, 14, 15, 16, 17, 18, 19, 20, 21, 22, 23], [0, 1, 2, 3, 4, 5, 6, 7, 8, 9, 10, 11, 12, 13, 14, 15, 16, 17, 18, 19, 20, 21, 22, 23, 24], [0, 1, 2, 3, 4, 5, 6, 7, 8, 9, 10, 11, 12, 13, 14, 15, 16, 17, 18, 19, 20, 21, 22, 23, 24, 25], [0, 1, 2, 3, 4, 5, 6, 7, 8, 9, 10, 11, 12, 13, 14, 15, 16, 17, 18, 19, 20, 21, 22, 23, 24, 25, 26], [0, 1, 2, 3, 4, 5, 6, 7, 8, 9, 10, 11, 12, 13, 14, 15, 16, 17, 18, 19, 20, 21, 22, 23, 24, 25, 26, 27], [0, 1, 2, 3, 4, 5, 6, 7, 8, 9, 10, 11, 12, 13, 14, 15, 16, 17, 18, 19, 20, 21, 22, 23, 24, 25, 26, 27, 28], [0, 1, 2, 3, 4, 5, 6, 7, 8, 9, 10, 11, 12, 13, 14, 15, 16, 17, 18, 19, 20, 21, 22, 23, 24, 25, 26, 27, 28, 29], [0, 1, 2, 3, 4, 5, 6, 7, 8, 9, 10, 11, 12, 13, 14, 15, 16, 17, 18, 19, 20, 21, 22, 23, 24, 25, 26, 27, 28, 29, 30], [0, 1, 2, 3, 4, 5, 6, 7, 8, 9, 10, 11, 12, 13, 14, 15, 16, 17, 18, 19, 20, 21, 22, 23, 24, 25, 26, 27, 28, 29, 30, 31], [0, 1, 2, 3, 4, 5, 6, 7, 8, 9, 10, 11, 12, 13, 14, 15, 16, 17, 18, 19, 20, 21, 22, 23, 24, 25, 26, 27, 28, 29, 30, 31, 32], [0, 1, 2, 3, 4, 5, 6, 7, 8, 9, 10, 11, 12, 13, 14, 15, 16, 17, 18, 19, 20, 21, 22, 23, 24, 25, 26, 27, 28, 29, 30, 31, 32, 33], [0, 1, 2, 3, 4, 5, 6, 7, 8, 9, 10, 11, 12, 13, 14, 15, 16, 17, 18, 19, 20, 21, 22, 23, 24, 25, 26, 27, 28, 29, 30, 31, 32, 33, 34], [0, 1, 2, 3, 4, 5, 6, 7, 8, 9, 10, 11, 12, 13, 14, 15, 16, 17, 18, 19, 20, 21, 22, 23, 24, 25, 26, 27, 28, 29, 30, 31, 32, 33, 34, 35], [0, 1, 2, 3, 4, 5, 6, 7, 8, 9, 10, 11, 12, 13, 14, 15, 16, 17, 18, 19, 20, 21, 22, 23, 24, 25, 26, 27, 28, 29, 30, 31, 32, 33, 34, 35, 36], [0, 1, 2, 3, 4, 5, 6, 7, 8, 9, 10, 11, 12, 13, 14, 15, 16, 17, 18, 19, 20, 21, 22, 23, 24, 25, 26, 27, 28, 29, 30, 31, 32, 33, 34, 35, 36, 37], [0, 1, 2, 3, 4, 5, 6, 7, 8, 9, 10, 11, 12, 13, 14, 15, 16, 17, 18, 19, 20, 21, 22, 23, 24, 25, 26, 27, 28, 29, 30, 31, 32, 33, 34, 35, 36, 37, 38], [0, 1, 2, 3, 4, 5, 6, 7, 8, 9, 10, 11, 12, 13, 14, 15, 16, 17, 18, 19, 20, 21, 22, 23, 24, 25, 26, 27, 28, 29, 30, 31, 32, 33, 34, 35, 36, 37, 38, 39], [0, 1, 2, 3, 4, 5, 6, 7, 8, 9, 10, 11, 12, 13, 14, 15, 16, 17, 18, 19, 20, 21, 22, 23, 24, 25, 26, 27, 28, 29, 30, 31, 32, 33, 34, 35, 36, 37, 38, 39, 40], [0, 1, 2, 3, 4, 5, 6, 7, 8, 9, 10, 11, 12, 13, 14, 15, 16, 17, 18, 19, 20, 21, 22, 23, 24, 25, 26, 27, 28, 29, 30, 31, 32, 33, 34, 35, 36, 37, 38, 39, 40, 41], [0, 1, 2, 3, 4, 5, 6, 7, 8, 9, 10, 11, 12, 13, 14, 15, 16, 17, 18, 19, 20, 21, 22, 23, 24, 25, 26, 27, 28, 29, 30, 31, 32, 33, 34, 35, 36, 37, 38, 39, 40, 41, 42], [0, 1, 2, 3, 4, 5, 6, 7, 8, 9, 10, 11, 12, 13, 14, 15, 16, 17, 18, 19, 20, 21, 22, 23, 24, 25, 26, 27, 28, 29, 30, 31, 32, 33, 34, 35, 36, 37, 38, 39, 40, 41, 42, 43], [0, 1, 2, 3, 4, 5, 6, 7, 8, 9, 10, 11, 12, 13, 14, 15, 16, 17, 18, 19, 20, 21, 22, 23, 24, 25, 26, 27, 28, 29, 30, 31, 32, 33, 34, 35, 36, 37, 38, 39, 40, 41, 42, 43, 44], [0, 1, 2, 3, 4, 5, 6, 7, 8, 9, 10, 11, 12, 13, 14, 15, 16, 17, 18, 19, 20, 21, 22, 23, 24, 25, 26, 27, 28, 29, 30, 31, 32, 33, 34, 35, 36, 37, 38, 39, 40, 41, 42], [0, 1, 2, 3, 4, 5, 6, 7, 8, 9, 10, 11, 12, 13, 14, 15, 16, 17, 18, 19, 20, 21, 22, 23, 24, 25, 26, 27, 28, 29, 30, 31, 32, 33, 34, 35, 36, 37, 38, 39, 40, 41, 42, 46], [0, 1, 2, 3, 4, 5, 6, 7, 8, 9, 10, 11, 12, 13, 14, 15, 16, 17, 18, 19, 20, 21, 22, 23, 24, 25, 26, 27, 28, 29, 30, 31, 32, 33, 34, 35, 36, 37, 38, 39, 40, 41, 42, 43, 44, 45, 46, 47], [0, 1, 2, 3, 4, 5, 6, 7, 8, 9, 10, 11, 12, 13, 14, 15, 16, 17, 18, 19, 20, 21, 22, 23, 24, 25, 26, 27, 28, 29, 30, 31, 32, 33, 34, 35, 36, 37, 38, 39, 40, 41, 42, 43, 44, 45, 46, 47, 48], [0, 1, 2, 3, 4, 5, 6, 7, 8, 9, 10, 11, 12, 13, 14, 15, 16, 17, 18, 19, 20, 21, 22, 23, 24, 25, 26, 27, 28, 29, 30, 31, 32, 33, 34, 35, 36, 37, 38, 39, 40, 41, 42, 43, 44, 45, 46, 47, 48, 49]] mixed rfl ?_
  refine dw1 1 rfl rfl ?_
  refine Pstep.go (st_move rfl rfl) ?_
  refine o_nil ⟨rfl, ?_⟩
  refine dw1 2 rfl rfl ?_
  refine Pstep.go (st_eql rfl rfl rfl) ?_
  refine o_nil ⟨rfl, ?_⟩
  refine dw1 3 rfl rfl ?_
  refine Pstep.go (st_move rfl rfl) ?_
  refine o_setT 66 rfl (rfl) ?_
  refine o_nil ⟨rfl, ?_⟩
  refine dw1 4 rfl rfl ?_
  refine o_run rfl rfl rfl ?_
  refine Pstep.go (st_move rfl rfl) ?_
  refine o_nil ⟨rfl, ?_⟩
  refine dw1 5 rfl rfl ?_
  refine o_run rfl rfl rfl ?_
  refine Pstep.go (st_eql rfl rfl rfl) ?_
  refine o_nil ⟨rfl, ?_⟩
  refine dw1 6 rfl rfl ?_
  refine Pstep.go (st_pickT rfl rfl rfl rfl) ?_
  refine o_nil ⟨rfl, ?_⟩
  refine dw1 7 rfl rfl ?_
  refine Pstep.go (st_move rfl rfl) ?_
  refine o_setT 70 rfl (rfl) ?_
  refine o_nil ⟨rfl, ?_⟩
  refine dw1 8 rfl rfl ?_
  refine o_run rfl rfl rfl ?_
  refine Pstep.go (st_move rfl rfl) ?_
  refine o_nil ⟨rfl, ?_⟩
  refine dw1 9 rfl rfl ?_
  refine o_run rfl rfl rfl ?_
  refine Pstep.go (st_eql rfl rfl rfl) ?_
  refine o_nil ⟨rfl, ?_⟩
  refine dw1 10 rfl rfl ?_
  refine Pstep.go (st_pickT rfl rfl rfl rfl) ?_
  refine o_nil ⟨rfl, ?_⟩
  refine dw1 11 rfl rfl ?_
  refine Pstep.go (st_move rfl rfl) ?_
  refine o_setT 74 rfl (rfl) ?_
  refine o_nil ⟨rfl, ?_⟩
  refine dw1 12 rfl rfl ?_
  refine o_run rfl rfl rfl ?_
  refine Pstep.go (st_move rfl rfl) ?_
  refine o_nil ⟨rfl, ?_⟩
  refine dw1 13 rfl rfl ?_
  refine Pstep.go (st_pickT rfl rfl rfl rfl) ?_
  refine o_nil ⟨rfl, ?_⟩
  refine dw1 14 rfl rfl ?_
  refine Pstep.go (st_move rfl rfl) ?_
  refine o_setT 77 rfl (rfl) ?_
  refine o_nil ⟨rfl, ?_⟩
  refine dw1 15 rfl rfl ?_
  refine o_run rfl rfl rfl ?_
  refine Pstep.go (st_move rfl rfl) ?_
  refine o_nil ⟨rfl, ?_⟩
  refine dw1 16 rfl rfl ?_
  refine o_run rfl rfl rfl ?_
  refine Pstep.go (st_eql rfl rfl rfl) ?_
  refine o_nil ⟨rfl, ?_⟩
  refine dw1 17 rfl rfl ?_
  refine Pstep.go (st_pickT rfl rfl rfl rfl) ?_
  refine o_nil ⟨rfl, ?_⟩
  refine dw1 18 rfl rfl ?_
  refine Pstep.go (st_move rfl rfl) ?_
  refine o_setT 81 rfl (rfl) ?_
  refine o_nil ⟨rfl, ?_⟩
  refine dw1 19 rfl rfl ?_
  refine o_run rfl rfl rfl ?_
  refine Pstep.go (st_move rfl rfl) ?_
  refine o_nil ⟨rfl, ?_⟩
  refine dw1 20 rfl rfl ?_
  refine o_run rfl rfl rfl ?_
  refine Pstep.go (st_not rfl rfl) ?_
  refine o_nil ⟨rfl, ?_⟩
  refine dw1 21 rfl rfl ?_
  refine Pstep.go (st_pickT rfl rfl rfl rfl) ?_
  refine o_nil ⟨rfl, ?_⟩
  refine dw1 22 rfl rfl ?_
  refine Pstep.go (st_move rfl rfl) ?_
  refine o_setT 85 rfl (rfl) ?_
  refine o_nil ⟨rfl, ?_⟩
  refine dw1 23 rfl rfl ?_
  refine o_run rfl rfl rfl ?_
  refine Pstep.go (st_move rfl rfl) ?_
  refine o_nil ⟨rfl, ?_⟩
  refine dw1 24 rfl rfl ?_
  refine o_run rfl rfl rfl ?_
  refine Pstep.go (st_eql rfl rfl rfl) ?_
  refine o_nil ⟨rfl, ?_⟩
  refine dw1 25 rfl rfl ?_
  refine Pstep.go (st_pickT rfl rfl rfl rfl) ?_
  refine o_nil ⟨rfl, ?_⟩
  refine dw1 26 rfl rfl ?_
  refine Pstep.go (st_move rfl rfl) ?_
  refine o_setT 89 rfl (rfl) ?_
  refine o_nil ⟨rfl, ?_⟩
  refine dw1 27 rfl rfl ?_
  refine o_run rfl rfl rfl ?_
  refine Pstep.go (st_move rfl rfl) ?_
  refine o_nil ⟨rfl, ?_⟩
  refine dw1 28 rfl rfl ?_
  refine o_run rfl rfl rfl ?_
  refine Pstep.go (st_not rfl rfl) ?_
  refine o_nil ⟨rfl, ?_⟩
  refine dw1 29 rfl rfl ?_
  refine Pstep.go (st_pickT rfl rfl rfl rfl) ?_
  refine o_nil ⟨rfl, ?_⟩
  refine dw1 30 rfl rfl ?_
  refine Pstep.go (st_move rfl rfl) ?_
  refine o_setT 93 rfl (rfl) ?_
  refine o_nil ⟨rfl, ?_⟩
  refine dw1 31 rfl rfl ?_
  refine o_run rfl rfl rfl ?_
  refine Pstep.go (st_move rfl rfl) ?_
  refine o_nil ⟨rfl, ?_⟩
  refine dw1 32 rfl rfl ?_
  refine o_run rfl rfl rfl ?_
  refine Pstep.go (st_eql rfl rfl rfl) ?_
  refine o_nil ⟨rfl, ?_⟩
  refine dw1 33 rfl rfl ?_
  refine Pstep.go (st_pickT rfl rfl rfl rfl) ?_
  refine o_nil ⟨rfl, ?_⟩
  refine dw1 34 rfl rfl ?_
  refine Pstep.go (st_move rfl rfl) ?_
  refine o_setT 97 rfl (rfl) ?_
  refine o_nil ⟨rfl, ?_⟩
  refine dw1 35 rfl rfl ?_
  refine o_run rfl rfl rfl ?_
  refine Pstep.go (st_move rfl rfl) ?_
  refine o_nil ⟨rfl, ?_⟩
  refine dw1 36 rfl rfl ?_
  refine o_run rfl rfl rfl ?_
  refine Pstep.go (st_eql rfl rfl rfl) ?_
  refine o_nil ⟨rfl, ?_⟩
  refine dw1 37 rfl rfl ?_
  refine Pstep.go (st_pickT rfl rfl rfl rfl) ?_
  refine o_nil ⟨rfl, ?_⟩
  refine dw1 38 rfl rfl ?_
  refine Pstep.go (st_move rfl rfl) ?_
  refine o_setT 101 rfl (rfl) ?_
  refine o_nil ⟨rfl, ?_⟩
  refine dw1 39 rfl rfl ?_
  refine o_run rfl rfl rfl ?_
  refine Pstep.go (st_move rfl rfl) ?_
  refine o_nil ⟨rfl, ?_⟩
  refine dw1 40 rfl rfl ?_
  refine o_run rfl rfl rfl ?_
  refine Pstep.go (st_lenMap rfl Tryz.underlying56 rfl) ?_
  refine o_nil ⟨rfl, ?_⟩
  refine dw1 41 rfl rfl ?_
  refine o_run rfl rfl rfl ?_
  refine Pstep.go (st_eql rfl rfl rfl) ?_
  refine o_nil ⟨rfl, ?_⟩
  refine dw1 42 rfl rfl ?_
  refine Pstep.go (st_pickT rfl rfl rfl rfl) ?_
  refine o_nil ⟨rfl, ?_⟩
  refine dw1 43 rfl rfl ?_
  refine Pstep.go (st_move rfl rfl) ?_
  refine o_setT 106 rfl (rfl) ?_
  refine o_nil ⟨rfl, ?_⟩
  refine dws ?_
  refine d_pure [13, 106] [] rfl rfl (fun _ => gp_run rfl rfl rfl (st_move rfl rfl)) ?_
  refine d_pure [107, 106] [] rfl rfl (fun _ => gp_run rfl rfl rfl (st_indexD (0) rfl rfl (rfl) (rfl) Tryz.underlying56 rfl sz62 rfl)) ?_
  refine d_pure [108, 106] [] rfl rfl (fun _ => gp_run rfl rfl rfl (st_loadDS rfl rfl rw62 rfl)) ?_
  refine d_pure [1, 106] [1] rfl rfl (fun _ => gp_run rfl rfl rfl (st_loadPS rfl rfl rw47 rfl rfl rfl)) ?_
  refine d_pure [110, 106] [] rfl rfl (fun _ => gp_run rfl rfl rfl (st_build zl62 pl62 rfl rfl rfl)) ?_
  refine dwc 48 rfl rfl rfl ?_
  refine dw1 49 rfl rfl ?_
  refine o_run rfl rfl rfl ?_
  refine Pstep.go (st_eqlSt (la := rooC ⟨rcA, 1⟩) (lb := rooC ⟨rcA, 1⟩) (ds := rooT) (by kernel_rfl) (by kernel_rfl) (by kernel_rfl) rfl rfl rfl rfl (roo_plain _) (roo_plain _) (roo_eqC _ _) rfl) ?_
  refine o_nil ⟨rfl, ?_⟩
  refine dw1 50 rfl rfl ?_
  refine Pstep.go (st_pickT rfl rfl rfl rfl) ?_
  refine o_nil ⟨rfl, ?_⟩
  refine dw1 51 rfl rfl ?_
  refine Pstep.go (st_assign rfl rfl) ?_
  refine o_nil ⟨rfl, ?_⟩
  refine dwe ?_
  refine a_ret ?_
  exact ⟨_, [], [], res_of rfl, rfl, rfl, by simp, rfl⟩
end Go.Proofs.YtnamabifclidmaaGreat
/- Layer 29: the law of admissible and feasible sets. -/
namespace Go.Proofs.YtnamabifclidmaaGreat
open Go.RowKit

theorem sml_V {p : Prb} (h : Sml p) (hE : prbE p = 0) : PV p := ⟨hE, sml_B h, by have := h.1; omega, by have := h.2.1; omega, fun i hi => by have := h.2.2 i hi; omega⟩
theorem cho_in {p : Prb} {l : List Int} (h : choE p l = 0) : ∀ x ∈ l, x ∈ p.it.map Itm.id := by
  have hp := choE_prb h
  unfold choE at h
  rw [if_neg (by omega)] at h
  unfold setE at h
  intro x hx
  obtain ⟨k, hk, rfl⟩ := List.mem_iff_getElem.1 hx
  have h0 := fst0_all h _ (List.mem_map.2 ⟨k, List.mem_range.2 hk, rfl⟩)
  unfold chErr at h0
  rw [getD_at 0 hk] at h0
  by_cases hn : l[k] ∈ p.it.map Itm.id
  · exact hn
  · rw [if_pos hn] at h0; cases h0
end Go.Proofs.YtnamabifclidmaaGreat
/- Layer 29: the laws of the reasons why sets are not admissible, and of overdrawn resources. -/
namespace Go.Proofs.YtnamabifclidmaaGreat
open Go.RowKit

end Go.Proofs.YtnamabifclidmaaGreat
/- Layer 29: the smallest admissible superset. -/
namespace Go.Proofs.YtnamabifclidmaaGreat
open Go.RowKit

/-- What must settle with S. -/
inductive Rch (p : Prb) (S : List Int) : Int → Prop
  | base {x : Int} (h : x ∈ S) : Rch p S x
  | step {i : Int} {b : Bkd} (h : Rch p S i) (hb : b ∈ req p i) : Rch p S b.m
theorem Rch.ids {p : Prb} {S : List Int} (hp : prbE p = 0) (hS : ∀ x ∈ S, x ∈ p.it.map Itm.id) {x : Int} (h : Rch p S x) : x ∈ p.it.map Itm.id := by
  induction h with
  | base h => exact hS _ h
  | step _ hb ih => exact (smI_mem hp _).1 (req_in hp ih hb)
theorem blks_mem {p : Prb} {f : Int → Bool} {b : Bkd} (h : b ∈ blks p f) : ∃ i, i ∈ ordI_ids p ∧ f i = true ∧ b ∈ req p i ∧ f b.m = false := by
  unfold blks at h
  obtain ⟨i, hi, h⟩ := List.mem_flatMap.1 h
  unfold blk1 at h
  split at h
  · rename_i hf
    obtain ⟨h1, h2⟩ := List.mem_filter.1 h
    exact ⟨i, hi, hf, h1, by simpa using h2⟩
  · cases h
theorem blks_none {p : Prb} {f : Int → Bool} (hp : prbE p = 0) (h : blks p f = []) {i : Int} (hi : i ∈ p.it.map Itm.id) (hf : f i = true) {b : Bkd} (hb : b ∈ req p i) : f b.m = true := by
  cases hm : f b.m with
  | true => rfl
  | false =>
    have : b ∈ blks p f := List.mem_flatMap.2 ⟨i, (ordI_perm hp).mem_iff.2 hi, by unfold blk1; rw [if_pos hf]; exact List.mem_filter.2 ⟨hb, by rw [hm]; rfl⟩⟩
    rw [h] at this; cases this
noncomputable def cloS (p : Prb) (S : List Int) : List Int := sortI ((p.it.map Itm.id).filter fun x => @decide (Rch p S x) (Classical.propDecidable _))
theorem sortI_eq {l m : List Int} (h : l.Perm m) : sortI l = sortI m := sort_one ((sortI_perm l).trans h) ((sortI_sorted l).imp fun h => cmpI_ge.2 h)
theorem clo_one {p : Prb} {S C : List Int} (hp : prbE p = 0) (hS : ∀ x ∈ S, x ∈ p.it.map Itm.id) (hn : C.Nodup) (h : ∀ x, x ∈ C ↔ Rch p S x) : sortI C = cloS p S := by
  unfold cloS
  have hi := items_ids (prb_ok hp).2.1
  refine sortI_eq ((List.perm_ext_iff_of_nodup hn (List.Nodup.sublist List.filter_sublist hi)).2 fun x => ?_)
  rw [h x, List.mem_filter]
  constructor
  · intro hr; exact ⟨hr.ids hp hS, by simpa using hr⟩
  · intro hr; simpa using hr.2
theorem filter_lt {α : Type} {q r : α → Bool} : ∀ {l : List α}, (∀ x ∈ l, q x = true → r x = true) → (∃ x, x ∈ l ∧ r x = true ∧ q x = false) → (l.filter q).length < (l.filter r).length
  | [], _, ⟨x, hx, _⟩ => by cases hx
  | a :: l, h, ⟨x, hx, h1, h2⟩ => by
    have hle : ∀ {l : List α}, (∀ x ∈ l, q x = true → r x = true) → (l.filter q).length ≤ (l.filter r).length := by
      intro l
      induction l with
      | nil => intro _; exact Nat.le_refl _
      | cons c l ih =>
        intro h
        have h3 := ih fun x hx => h x (List.mem_cons_of_mem _ hx)
        have h4 := h c List.mem_cons_self
        rw [List.filter_cons, List.filter_cons]
        cases hq : q c with
        | false => cases r c <;> simp <;> omega
        | true => rw [h4 hq]; simp; exact h3
    have ht := hle (l := l) fun x hx => h x (List.mem_cons_of_mem _ hx)
    rw [List.filter_cons, List.filter_cons]
    rcases List.mem_cons.1 hx with rfl | hx
    · rw [h1, h2]; simp; omega
    · have ih := filter_lt (l := l) (fun x hx => h x (List.mem_cons_of_mem _ hx)) ⟨x, hx, h1, h2⟩
      have h4 := h a List.mem_cons_self
      cases hq : q a with
      | false => cases r a <;> simp <;> omega
      | true => rw [h4 hq]; simp; exact ih
/-- A set on its way to the closure. -/
structure Cl (p : Prb) (S C : List Int) : Prop where
  n : C.Nodup
  s : ∀ x ∈ S, x ∈ C
  r : ∀ x ∈ C, Rch p S x
theorem Cl.len {p : Prb} {S C : List Int} (h : Cl p S C) (hp : prbE p = 0) (hS : ∀ x ∈ S, x ∈ p.it.map Itm.id) : C.length ≤ p.it.length := by
  have hi := items_ids (prb_ok hp).2.1
  have h1 := ((List.perm_ext_iff_of_nodup h.n (List.Nodup.sublist (List.filter_sublist (p := fun x => decide (x ∈ C))) hi)).2 fun x => by
    rw [List.mem_filter]
    exact ⟨fun hx => ⟨(h.r x hx).ids hp hS, by simpa using hx⟩, fun hx => by simpa using hx.2⟩).length_eq
  have h2 := List.length_filter_le (fun x => decide (x ∈ C)) (p.it.map Itm.id)
  rw [List.length_map] at h2
  omega
theorem Cl.done {p : Prb} {S C : List Int} (h : Cl p S C) (hp : prbE p = 0) (hS : ∀ x ∈ S, x ∈ p.it.map Itm.id) (h0 : blks p (inL C) = []) : sortI C = cloS p S := by
  refine clo_one hp hS h.n fun x => ⟨h.r x, fun hr => ?_⟩
  induction hr with
  | base hx => exact h.s _ hx
  | @step i b hr hb ih =>
    have h1 := blks_none hp h0 (hr.ids hp hS) (decide_eq_true ih) hb
    simpa [inL] using h1
theorem Cl.add {p : Prb} {S C : List Int} (h : Cl p S C) {b : Bkd} (hb : b ∈ blks p (inL C)) : Cl p S (C ++ [b.m]) ∧ b.m ∉ C := by
  obtain ⟨i, _, h2, h3, h4⟩ := blks_mem hb
  have hi : i ∈ C := by simpa [inL] using h2
  have hn : b.m ∉ C := by simpa [inL] using h4
  refine ⟨⟨?_, fun x hx => List.mem_append.2 (.inl (h.s x hx)), fun x hx => ?_⟩, hn⟩
  · rw [List.nodup_append]
    refine ⟨h.n, by simp, fun x hx y hy e => ?_⟩
    rw [List.mem_singleton] at hy; subst hy; subst e; exact hn hx
  · rcases List.mem_append.1 hx with hx | hx
    · exact h.r x hx
    · rw [List.mem_singleton.1 hx]; exact .step (h.r i hi) h3
theorem Cl.dec {p : Prb} {C D : List Int} {m : Int} (hm : m ∈ p.it.map Itm.id) (h1 : m ∉ C) (h2 : m ∈ D) (h : ∀ x ∈ C, x ∈ D) : ((p.it.map Itm.id).filter fun x => !inL D x).length < ((p.it.map Itm.id).filter fun x => !inL C x).length :=
  filter_lt (fun x _ hx => by
    have : x ∉ D := by simpa [inL] using hx
    have : x ∉ C := fun hc => this (h x hc)
    simpa [inL] using this) ⟨m, hm, by simpa [inL] using h1, by simpa [inL] using h2⟩
theorem flat_bkd (g : Nat) (E : TypeId) (l : List Bkd) : FlatH [(g, [.rowD E 8 (l.map bkdD)])] := ⟨⟨fun x hx c hc => by
  obtain ⟨b, _, rfl⟩ := List.mem_map.1 hx
  simp [D.cells] at hc
  rcases hc with rfl | rfl | rfl | rfl | rfl | rfl | rfl | rfl <;> rfl, trivial⟩, trivial⟩
set_option maxRecDepth 100000 in
theorem blocks29_o (p : Prb) (l : List Int) (hv : PV p) (hl : l.length ≤ 100000) : ACalls Tryz.prog 22 [.d (prbD p), .d (.sl none (l.map intD))] [] fun r H' => r = .own 900 0 (blks p (inL l)).length ∧ H' = [(900, [.rowD 54 8 ((blks p (inL l)).map bkdD)])] := by
  have hO : ordP p = sortO p.it := if_pos hv.e
  have h1 := hv.i
  have hso := refsorted_p p.it h1
  have hmm := fun x hx => missing29_p p l x hv.e hv.b h1 hv.r hv.q hl hx
  have hrl := fun i => req_len hv.b h1 hv.r i
  have hms : ∀ x ∈ sortO p.it, x ∈ p.it := fun x hx => (sortO_perm p.it).mem_iff.1 hx
  have hsl := sortO_len p.it
  have hbs : blks p (inL l) = (sortO p.it).flatMap fun x => blk1 p (inL l) x.id := by unfold blks ordI_ids; rw [hO, List.flatMap_map]
  rw [hbs]
  obtain ⟨S, hS⟩ : ∃ S, sortO p.it = S := ⟨_, rfl⟩
  rw [hS] at hso hms hsl ⊢
  refine a_enter Tryz.func22 rfl rfl Tryz.ntmps22 rfl rfl rfl fun F hF => ?_
  refine a_seq ?_
  refine a_region ?_
  refine Estep.go (st_box 1 rfl rfl rfl rfl rfl rfl rfl) ?_
  refine Pstep.go (st_assign rfl rfl) ?_
  refine o_nil ?_
  refine a_seq ?_
  refine a_region ?_
  refine Pstep.go (st_assign rfl rfl) ?_
  refine o_nil ?_
  refine a_seq ?_
  refine a_adopt 5 900 sl42 rfl rfl rfl rfl ?_
  refine a_region ?_
  refine Pstep.go (st_fieldP rfl fi25_1 rfl rfl rfl) ?_
  refine Pstep.go (st_loadP rfl rfl rfl on23 rfl) ?_
  refine Pstep.go (st_callP (hso) rfl rfl) ?_
  refine Pstep.go (st_assign rfl rfl) ?_
  refine o_nil ?_
  refine a_seq ?_
  refine a_seq ?_
  refine a_region ?_
  refine Pstep.go (st_assign rfl rfl) ?_
  refine o_nil ?_
  refine a_block ?_
  refine a_loopP (α := Nat × List Bkd) (fun q => ⟨34, [(1, .d (.sl none (l.map intD))), (2, (.ptr 1 0 0)), (5, (.own 900 0 q.2.length)), (6, (.d (.sl none (S.map itmD)))), (7, (.d (intD (q.1 : Int))))], [(900, [.rowD 54 8 (q.2.map bkdD)]), (1, [prbB2 25 p])]⟩) (fun q => q.1 ≤ S.length ∧ q.2 = (S.take q.1).flatMap (fun x => blk1 p (inL l) x.id) ∧ q.2.length ≤ q.1 * 1100000) (fun q => S.length - q.1) ((0, [])) (⟨Nat.zero_le _, rfl, Nat.le_refl _⟩) (lep_of hF [900, 1] rfl rfl ⟨rfl, rfl, rfl, rfl, rfl, trivial⟩) ?_
  rintro ⟨k, acc⟩ ⟨hk0, hA, hL⟩
  dsimp only at hk0 hA hL ⊢
  refine a_seq ?_
  refine a_seq ?_
  refine a_region ?_
  refine Pstep.go (st_move rfl rfl) ?_
  refine Pstep.go (st_move rfl rfl) ?_
  refine Pstep.go (st_lenMap rfl Tryz.underlying23 rfl) ?_
  refine Pstep.go (st_lss rfl rfl rfl) ?_
  refine o_nil ?_
  refine a_if rfl (fun h14 => ?_) (fun h14 => ?_)
  · have hk1 : k < S.length := lt_cast h14
    refine a_skip ?_
    refine a_seq ?_
    refine a_block ?_
    refine a_seq ?_
    refine a_region ?_
    refine Pstep.go (st_move rfl rfl) ?_
    refine Pstep.go (st_move rfl rfl) ?_
    refine Pstep.go (st_move rfl rfl) ?_
    refine Pstep.go (st_indexD (k) rfl rfl (rfl) (getm hk1) Tryz.underlying23 rfl sz80 rfl) ?_
    refine Pstep.go (st_fieldF1 rfl fi80_0 rfl rfl rfl) ?_
    refine Pstep.go (st_loadD1 rfl rfl on3 rfl) ?_
    refine Pstep.go (st_callP (in29_p l S[k].id (by omega)) rfl rfl) ?_
    refine o_nil ?_
    refine a_if rfl (fun h23 => ?_) (fun h23 => ?_)
    · refine a_drawn [[], [], [], [], [], [3, 4], [3, 4, 5], [1, 2, 3, 4, 5, 6], [0, 1, 2, 3, 4, 5, 6, 7], [0, 1, 2, 3, 4, 5, 6, 7, 8]] mixed rfl ?_
      refine dws ?_
      refine d_pure [5] [] rfl rfl (fun _ => gp_none (st_move rfl rfl)) ?_
      refine d_pureA [2] rfl rfl (fun _ => gp_none (st_loadPS rfl rfl rw25 rfl rfl rfl)) ?_
      refine d_pure [1] [] rfl rfl (fun _ => gp_none (st_move rfl rfl)) ?_
      refine d_pure [6] [] rfl rfl (fun _ => gp_none (st_move rfl rfl)) ?_
      refine d_pure [7] [] rfl rfl (fun _ => gp_none (st_move rfl rfl)) ?_
      refine d_pure [27, 28] [] rfl rfl (fun _ => gp_none (st_indexD (k) rfl rfl (rfl) (getm hk1) Tryz.underlying23 rfl sz80 rfl)) ?_
      refine d_pure [29] [] rfl rfl (fun _ => gp_none (st_loadDS rfl rfl rw80 rfl)) ?_
      refine d_pure [25, 26, 30] [] rfl rfl (fun _ => gp_none (st_callP (hmm S[k] (hms _ (List.getElem_mem hk1))) rfl rfl)) ?_
      refine dwc 8 rfl rfl rfl ?_
      refine dw1 9 rfl rfl ?_
      have hrl2 := Nat.le_trans (blkF_len (inL l) _) (hrl S[k].id)
      refine Estep.go (st_appMD (acc) (blkF (inL l) (req p S[k].id)) rfl rfl rfl rfl rfl rfl (fun _ => rfl) sl42 (by omega) rfl rfl rfl rfl) ?_
      refine o_nil ⟨rfl, ?_⟩
      refine dw1 10 rfl rfl ?_
      refine Pstep.go (st_assign rfl rfl) ?_
      refine o_nil ⟨rfl, ?_⟩
      refine dwe ?_
      refine a_region ?_
      refine Pstep.go (st_move rfl rfl) ?_
      refine Pstep.go (st_add rfl rfl (wrapS (k + 1) (by omega)) rfl) ?_
      refine Pstep.go (st_assign rfl rfl) ?_
      refine o_nil ?_
      exact ⟨(k + 1, acc ++ blkF (inL l) (req p S[k].id)), ⟨by show k + 1 ≤ _; omega, by show acc ++ blkF (inL l) (req p S[k].id) = (S.take (k + 1)).flatMap (fun x => blk1 p (inL l) x.id); rw [flat_snoc hk1, ← hA, blk1_in (decide_eq_true h23)], le_step2 hL (Nat.le_trans (blkF_len (inL l) _) (hrl S[k].id))⟩, by show S.length - (k + 1) < S.length - k; omega, lep_of hF [900, 1] rfl (rfl) ⟨rfl, rfl, rfl, rfl, rfl, trivial⟩⟩
    · refine a_skip ?_
      refine a_region ?_
      refine Pstep.go (st_move rfl rfl) ?_
      refine Pstep.go (st_add rfl rfl (wrapS (k + 1) (by omega)) rfl) ?_
      refine Pstep.go (st_assign rfl rfl) ?_
      refine o_nil ?_
      exact ⟨(k + 1, acc), ⟨by show k + 1 ≤ _; omega, by show acc = (S.take (k + 1)).flatMap (fun x => blk1 p (inL l) x.id); rw [flat_snoc hk1, ← hA, blk1_out (by unfold inL; simpa using h23), List.append_nil], le_step hL⟩, by show S.length - (k + 1) < S.length - k; omega, lep_of hF [900, 1] rfl (rfl) ⟨rfl, rfl, rfl, rfl, rfl, trivial⟩⟩
  · refine a_exit ?_
    refine a_seq ?_
    have hfa : acc = S.flatMap (fun x => blk1 p (inL l) x.id) := by rw [hA, List.take_of_length_le (by have h := h14; omega)]
    refine a_region ?_
    refine Pstep.go (st_move rfl rfl) ?_
    refine Pstep.go (st_assign rfl rfl) ?_
    refine o_nil ?_
    refine a_ret ?_
    exact ⟨_, [900], _, res_of rfl, rfl, rfl, by rw [hfa], by rw [hfa]⟩
set_option maxRecDepth 100000 in
theorem refclo_p (p : Prb) (l : List Int) (hv : PV p) (hl : l.length ≤ 1000) (hn : l.Nodup) (hS : ∀ x ∈ l, x ∈ p.it.map Itm.id) : PCalls Tryz.prog 31 [.d (prbD p), .d (.sl none (l.map intD))] (.sl none ((cloS p l).map intD)) := by
  have h1 := hv.i
  refine a_enter Tryz.func31 rfl rfl Tryz.ntmps31 rfl rfl rfl fun F hF => ?_
  refine a_seq ?_
  refine a_region ?_
  refine Estep.go (st_box 1 rfl rfl rfl rfl rfl rfl rfl) ?_
  refine Pstep.go (st_assign rfl rfl) ?_
  refine o_nil ?_
  refine a_seq ?_
  refine a_region ?_
  refine Estep.go (st_buildSlice 30 sl26 rfl rfl rfl rfl rfl rfl rfl rfl) ?_
  refine Pstep.go (st_move rfl rfl) ?_
  refine Estep.go (st_appMD (([] : List Int)) (l) rfl rfl rfl rfl rfl rfl (fun _ => rfl) sl26 (by simp only [List.length_nil]; omega) rfl rfl rfl rfl) ?_
  refine Pstep.go (st_assign rfl rfl) ?_
  refine o_nil ?_
  refine a_block ?_
  refine a_loopP (α := List Int) (fun out => ⟨25, [(2, (.ptr 1 0 0)), (5, (.own 30 0 out.length))], [(1, [prbB2 25 p]), (30, [.rowD 3 1 (out.map intD)])]⟩) (fun out => Cl p l out) (fun out => ((p.it.map Itm.id).filter fun x => !inL out x).length) (l) (⟨hn, fun _ h => h, fun _ h => .base h⟩) (lep_of hF [1, 30] rfl rfl ⟨rfl, rfl, trivial⟩) ?_
  rintro out hC
  refine a_block ?_
  refine a_seq ?_
  have hol := hC.len hv.e hS
  refine a_region ?_
  refine Pstep.go (st_loadPS rfl rfl rw25 rfl rfl rfl) ?_
  refine Pstep.go (st_move rfl rfl) ?_
  refine Estep.go (st_callB [30] (blocks29_o p out hv (by omega)) (by exact ⟨.inl rfl, .inr ⟨_, _, rfl, .own rfl rfl (by simp) (List.take_of_length_le (by simp)), rfl⟩, trivial⟩) [900] ⟨rfl, trivial⟩ rfl rfl rfl rfl rfl rfl rfl (flat_bkd _ _ _) rfl rfl) ?_
  refine Pstep.go (st_assign rfl rfl) ?_
  refine o_nil ?_
  refine a_seq ?_
  refine a_seq ?_
  refine a_region ?_
  refine Pstep.go (st_move rfl rfl) ?_
  refine Pstep.go (st_lenO rfl Tryz.underlying42 rfl) ?_
  refine Pstep.go (st_eql rfl rfl rfl) ?_
  refine o_nil ?_
  refine a_if rfl (fun h15 => ?_) (fun h15 => ?_)
  · refine a_seq ?_
    have hb0 : blks p (inL out) = [] := List.eq_nil_of_length_eq_zero (by have h := h15; omega)
    refine a_freezeM (emb := intD) 5 30 out rfl rfl rfl rfl rfl rfl rfl ?_
    refine a_region ?_
    refine Pstep.go (st_move rfl rfl) ?_
    refine Pstep.go (st_callP (sort29_p out (by omega)) rfl rfl) ?_
    refine Pstep.go (st_assign rfl rfl) ?_
    refine o_nil ?_
    refine a_ret ?_
    exact ⟨_, [], [], res_of rfl, rfl, rfl, by rw [hC.done hv.e hS hb0], rfl⟩
  · refine a_skip ?_
    have hw0 : 0 < (blks p (inL out)).length := by have h := h15; omega
    refine a_freezeM (emb := bkdD) 6 900 (blks p (inL out)) rfl rfl rfl rfl rfl rfl rfl ?_
    refine a_region ?_
    refine Pstep.go (st_move rfl rfl) ?_
    refine Pstep.go (st_move rfl rfl) ?_
    refine Pstep.go (st_indexD (0) rfl rfl (rfl) (getm hw0) Tryz.underlying42 rfl sz54 rfl) ?_
    refine Pstep.go (st_fieldF1 rfl fi54_1 rfl rfl rfl) ?_
    refine Pstep.go (st_loadD1 rfl rfl on3 rfl) ?_
    refine Estep.go (st_buildSlice 31 sl26 rfl rfl rfl rfl rfl rfl rfl rfl) ?_
    refine Estep.go (st_appM (out) ([(blks p (inL out))[0].m]) rfl rfl rfl rfl rfl rfl rfl rfl sl26 (by simp only [List.length_singleton]; omega) rfl rfl rfl rfl) ?_
    refine Pstep.go (st_assign rfl rfl) ?_
    refine o_nil ?_
    exact ⟨out ++ [(blks p (inL out))[0].m], (hC.add (List.getElem_mem hw0)).1, Cl.dec (((hC.add (List.getElem_mem hw0)).1.r _ (by simp)).ids hv.e hS) (hC.add (List.getElem_mem hw0)).2 (by simp) (fun x hx => List.mem_append.2 (.inl hx)), lep_of hF [1, 30] rfl (rfl) ⟨rfl, rfl, trivial⟩⟩
end Go.Proofs.YtnamabifclidmaaGreat
/- Layer 29: the package's Closure. -/
namespace Go.Proofs.YtnamabifclidmaaGreat
open Go.RowKit

theorem blks_len1 {p : Prb} (hb : PrbB p) (h1 : p.it.length ≤ 1000) (h2 : p.ro.length ≤ 1000) (f : Int → Bool) : (blks p f).length ≤ 1100000000 := by
  unfold blks
  have h5 := flat_len (f := blk1 p f) (n := 1100000) (l := ordI_ids p) (fun x _ => blk1_len hb h1 h2 f x)
  have h6 : (ordI_ids p).length ≤ 1000 := by unfold ordI_ids; rw [List.length_map]; exact Nat.le_trans (ordP_len p) h1
  have h7 : (ordI_ids p).length * 1100000 ≤ 1000 * 1100000 := Nat.mul_le_mul_right _ h6
  omega
def trueK (M : List (Int × Bool)) : List Int := (M.filter fun e => e.2).map Prod.fst
theorem trueK_cons (k : Int) (v : Bool) (M : List (Int × Bool)) : trueK ((k, v) :: M) = (if v = true then [k] else []) ++ trueK M := by
  unfold trueK; cases v <;> simp
theorem trueK_perm {l m : List (Int × Bool)} (h : l.Perm m) : (trueK l).Perm (trueK m) := (h.filter _).map _
theorem trueK_len (M : List (Int × Bool)) : (trueK M).length ≤ M.length := by unfold trueK; rw [List.length_map]; exact List.length_filter_le _ _
abbrev HM4 (mv : Nat) (B : List Nat) (c : Nat) (M : List (Int × Bool)) : Hp := [(12, [.map (some (B, c)) (ents intD boolD M)]), (13, [.addr 12 0 (.map (some mv))])]
set_option maxRecDepth 100000 in
theorem sorted_c (mv : Nat) (B : List Nat) (c : Nat) (M : List (Int × Bool)) (hB : B.length = M.length) (hM : M.length ≤ 100000) : ACalls Tryz.prog 55 [mapV mv] (HM4 mv B c M) fun r H' => r = .own 900 0 (trueK M).length ∧ H' = HM4 mv B c M ++ [(900, [.rowD 3 1 ((sortI (trueK M)).map intD)])] := by
  have hT := trueK_len M
  refine a_enter Tryz.func55 rfl rfl Tryz.ntmps55 rfl rfl rfl fun F hF => ?_
  refine a_seq ?_
  refine a_region ?_
  refine Pstep.go (st_assign rfl rfl) ?_
  refine o_nil ?_
  refine a_seq ?_
  refine a_region ?_
  refine Pstep.go (st_assign rfl rfl) ?_
  refine o_nil ?_
  refine a_seq ?_
  refine a_seq ?_
  refine a_adopt 3 900 sl26 rfl rfl rfl rfl ?_
  refine a_region ?_
  refine Pstep.go (st_move rfl rfl) ?_
  refine o_rawMap 6 13 0 rfl rfl ?_
  refine Estep.go (st_range 1 rfl rfl rfl mt108 rfl rfl rfl rfl) ?_
  refine o_nil ?_
  refine a_block ?_
  refine a_loopP (α := List Nat × List Int) (fun q => ⟨21, [(3, (.own 900 0 q.2.length)), (7, (.ptr 1 0 0))], HM4 mv B c M ++ [(900, [.rowD 3 1 (q.2.map intD)]), (1, [.iter 12 0 c q.1])]⟩) (fun q => (q.2 ++ trueK (lft M B q.1)).Perm (trueK M)) (fun q => (lft M B q.1).length) (([], [])) (by show ([] ++ trueK (lft M B [])).Perm _; rw [lft_start hB]; exact List.Perm.refl _) (lep_of hF [12, 13, 900, 1] rfl rfl ⟨rfl, rfl, trivial⟩) ?_
  rintro ⟨seen, acc⟩ hI
  dsimp only at hI ⊢
  refine a_seq ?_
  refine a_region ?_
  refine o_next (M) rfl rfl rfl rfl (fun hl8 => ?_) (fun j8 b8 k8 v8 hm8 hb8 hB8 hp8 => ⟨_, rfl, ?_⟩)
  · have hfin : acc.Perm (trueK M) := by have h1 := hI; rw [hl8] at h1; simpa [trueK] using h1
    refine Pstep.go (st_extract rfl rfl rfl) ?_
    refine o_nil ?_
    refine a_seq ?_
    refine a_false rfl rfl ?_
    refine a_exit ?_
    refine a_seq ?_
    refine a_region ?_
    have hal2 := hfin.length_eq
    refine Pstep.go (st_move rfl rfl) ?_
    refine Estep.go (st_sortI laysS acc (by omega) rfl rfl rfl rfl rfl rfl rfl) ?_
    refine o_nil ?_
    refine a_seq ?_
    refine a_region ?_
    refine Pstep.go (st_move rfl rfl) ?_
    refine Pstep.go (st_assign rfl rfl) ?_
    refine o_nil ?_
    refine a_ret ?_
    exact ⟨_, [12, 13, 900], _, res_of rfl, rfl, rfl, by rw [hfin.length_eq], by rw [sortI_eq hfin]; rfl⟩
  · refine Pstep.go (st_extract rfl rfl rfl) ?_
    refine o_nil ?_
    refine a_seq ?_
    refine a_true rfl rfl ?_
    refine a_skip ?_
    refine a_block ?_
    refine a_seq ?_
    refine a_region ?_
    refine Pstep.go (st_entry (M) j8 b8 rfl rfl rfl hm8 hb8 rfl) ?_
    refine Pstep.go (st_extract rfl rfl rfl) ?_
    refine Pstep.go (st_extract rfl rfl rfl) ?_
    refine Pstep.go (st_assign rfl rfl) ?_
    refine Pstep.go (st_assign rfl rfl) ?_
    refine o_nil ?_
    refine a_seq ?_
    refine a_region ?_
    refine Pstep.go (st_move rfl rfl) ?_
    refine o_nil ?_
    refine a_cond rfl (fun h13 => ?_) (fun h13 => ?_)
    · refine a_region ?_
      refine Pstep.go (st_move rfl rfl) ?_
      have hal : acc.length ≤ 100000 := by have h1 := hI.length_eq; rw [List.length_append] at h1; omega
      refine Pstep.go (st_move rfl rfl) ?_
      refine Estep.go (st_buildSlice 30 sl26 rfl rfl rfl rfl rfl rfl rfl rfl) ?_
      refine Estep.go (st_appM (acc) ([k8]) rfl rfl rfl rfl rfl rfl rfl rfl sl26 (by simp only [List.length_singleton]; omega) rfl rfl rfl rfl) ?_
      refine Pstep.go (st_assign rfl rfl) ?_
      refine o_nil ?_
      exact ⟨(seen ++ [b8], acc ++ [k8]), (by show ((acc ++ [k8]) ++ trueK (lft M B (seen ++ [b8]))).Perm _; refine List.Perm.trans (List.Perm.trans ?_ (List.Perm.append_left acc (trueK_perm hp8)).symm) hI; rw [trueK_cons, if_pos (by simpa using h13), List.append_assoc]), by show (lft M B (seen ++ [b8])).length < (lft M B seen).length; rw [hp8.length_eq]; exact Nat.lt_succ_self _, lep_of hF [12, 13, 900, 1] rfl (rfl) ⟨rfl, rfl, trivial⟩⟩
    · refine a_skip ?_
      exact ⟨(seen ++ [b8], acc), (by show (acc ++ trueK (lft M B (seen ++ [b8]))).Perm _; refine List.Perm.trans (List.Perm.trans ?_ (List.Perm.append_left acc (trueK_perm hp8)).symm) hI; rw [trueK_cons, if_neg (by simpa using h13), List.nil_append]), by show (lft M B (seen ++ [b8])).length < (lft M B seen).length; rw [hp8.length_eq]; exact Nat.lt_succ_self _, lep_of hF [12, 13, 900, 1] rfl (rfl) ⟨rfl, rfl, trivial⟩⟩
def allT (M : List (Int × Bool)) : Prop := ∀ e ∈ M, e.2 = true
def keysM (M : List (Int × Bool)) : List Int := M.map Prod.fst
theorem trueK_all {M : List (Int × Bool)} (h : allT M) : trueK M = keysM M := by
  unfold trueK keysM; rw [List.filter_eq_self.2 h]
theorem inM_all {M : List (Int × Bool)} (h : allT M) : inM M = inL (keysM M) := funext fun x => by
  unfold inM inL
  by_cases hx : x ∈ keysM M
  · rw [decide_eq_true hx]; exact h _ (mget_mem (z := false) hx)
  · rw [decide_eq_false hx]; exact mget_none hx
theorem allT_put {M : List (Int × Bool)} (h : allT M) (x : Int) : allT (mput M x true) := fun e he => by
  obtain ⟨j, hj, rfl⟩ := List.mem_iff_getElem.1 he
  have h1 := mput_ix (m := M) (a := x) (b := true)
  by_cases e : j = mix M x
  · subst e
    have := h1.1
    rw [List.getElem?_eq_getElem hj] at this; injection this with this; rw [this]
  · have h2 := h1.2 j e
    rw [List.getElem?_eq_getElem hj] at h2
    exact h _ (List.mem_of_getElem? h2.symm)
theorem keys_put (M : List (Int × Bool)) (x : Int) (b : Bool) : keysM (mput M x b) = if x ∈ keysM M then keysM M else keysM M ++ [x] := mput_keys
theorem Cl.put {p : Prb} {S : List Int} {M : List (Int × Bool)} (h : Cl p S (keysM M)) {x : Int} (hx : Rch p S x) : Cl p S (keysM (mput M x true)) := by
  rw [keys_put]
  split
  · exact h
  · rename_i hn
    refine ⟨?_, fun y hy => List.mem_append.2 (.inl (h.s y hy)), fun y hy => ?_⟩
    · rw [List.nodup_append]
      exact ⟨h.n, by simp, fun a ha b hb e => by rw [List.mem_singleton] at hb; subst hb; subst e; exact hn ha⟩
    · rcases List.mem_append.1 hy with hy | hy
      · exact h.r y hy
      · rw [List.mem_singleton.1 hy]; exact hx
theorem setM_all (l : List Int) : allT (setM l) := fun e he => by
  unfold setM at he; obtain ⟨x, _, rfl⟩ := List.mem_map.1 he; rfl
theorem setM_keys (l : List Int) : keysM (setM l) = l := by unfold keysM setM; rw [List.map_map]; exact List.map_id' l
set_option maxRecDepth 100000 in
theorem closF_c (p : Prb) (l : List Int) (hb : PrbB p) (hl : l.length ≤ 1000) (h1 : p.it.length ≤ 1000) (h2 : p.ro.length ≤ 1000) (hE : choE p l = 0) (hn : l.Nodup) (hS : ∀ x ∈ l, x ∈ p.it.map Itm.id) : ACalls Tryz.prog 28 [.d (prbD p), .d (.sl none (l.map intD))] [] fun r H' => r = .tup [.own 900 0 (cloS p l).length, .d (intD 0)] ∧ H' = [(900, [.rowD 3 1 ((cloS p l).map intD)])] := by
  have hpr := (prepare_ok p l hb (by omega) hE).by [(2, 12)] rfl
  have h0 := choE_prb hE
  have hbk := fun mv M => blocks_c p mv (some (List.range M.length, M.length)) M hb h1 h2
  refine a_enter Tryz.func28 rfl rfl Tryz.ntmps28 rfl rfl rfl fun F hF => ?_
  refine a_seq ?_
  refine a_region ?_
  refine Estep.go (st_box 1 rfl rfl rfl rfl rfl rfl rfl) ?_
  refine Pstep.go (st_assign rfl rfl) ?_
  refine Pstep.go (st_assign rfl rfl) ?_
  refine o_nil ?_
  refine a_seq ?_
  refine a_region ?_
  refine Pstep.go (st_loadPS rfl rfl rw35 rfl rfl rfl) ?_
  refine Pstep.go (st_move rfl rfl) ?_
  refine Estep.go (st_callD hpr rfl [10, 11, 12] ⟨rfl, rfl, rfl, trivial⟩ rfl rfl rfl rfl rfl rfl rfl rfl rfl) ?_
  refine Pstep.go (st_move rfl rfl) ?_
  refine Pstep.go (st_extract rfl rfl rfl) ?_
  refine Pstep.go (st_extract rfl rfl rfl) ?_
  refine Pstep.go (st_extract rfl rfl rfl) ?_
  refine Pstep.go (st_assign rfl rfl) ?_
  refine Pstep.go (st_assign rfl rfl) ?_
  refine Pstep.go (st_assign rfl rfl) ?_
  refine o_nil ?_
  refine a_seq ?_
  refine a_seq ?_
  refine a_region ?_
  refine Pstep.go (st_move rfl rfl) ?_
  refine Pstep.go (st_neq rfl rfl rfl) ?_
  refine o_nil ?_
  refine a_false rfl ((by decide)) ?_
  refine a_skip ?_
  refine a_seq ?_
  refine a_seq ?_
  refine a_ghostM 13 12 0 rfl rfl rfl rfl rfl fun mv => ?_
  refine a_toRaw 7 13 0 (.inl rfl) rfl ?_
  refine a_region ?_
  refine Pstep.go (st_move rfl rfl) ?_
  refine Pstep.go (st_move rfl rfl) ?_
  refine Estep.go (st_callD (hbk mv (setM l)) rfl [10, 11, 12, 13] ⟨rfl, rfl, rfl, rfl, trivial⟩ rfl rfl rfl rfl rfl rfl rfl rfl rfl) ?_
  refine Pstep.go (st_assign rfl rfl) ?_
  refine o_nil ?_
  refine a_block ?_
  refine a_loopP (α := List (Int × Bool)) (fun M => ⟨43, [(6, (.ptr 10 0 0)), (7, (mapV mv)), (9, (.d (.sl none ((blks p (inM M)).map bkdD))))], HM2 p mv (some (List.range M.length, M.length)) M⟩) (fun M => allT M ∧ Cl p l (keysM M)) (fun M => ((p.it.map Itm.id).filter fun x => !inL (keysM M) x).length) (setM l) (⟨setM_all l, by rw [setM_keys]; exact ⟨hn, fun _ h => h, fun _ h => .base h⟩⟩) (lep_of hF [10, 11, 12, 13] rfl rfl ⟨rfl, rfl, rfl, trivial⟩) ?_
  rintro M ⟨hT, hC⟩
  refine a_seq ?_
  refine a_seq ?_
  refine a_region ?_
  refine Pstep.go (st_move rfl rfl) ?_
  have hWl : (blks p (inM M)).length ≤ 1100000000 := blks_len1 hb h1 h2 _
  refine Pstep.go (st_lenMap rfl Tryz.underlying39 rfl) ?_
  refine Pstep.go (st_gtr rfl rfl rfl) ?_
  refine o_nil ?_
  refine a_if rfl (fun h27 => ?_) (fun h27 => ?_)
  · refine a_skip ?_
    refine a_seq ?_
    refine a_block ?_
    refine a_seq ?_
    have hw0 : 0 < (blks p (inM M)).length := by have h := h27; omega
    have hmem : ∀ b ∈ blks p (inM M), Rch p l b.m ∧ b.m ∉ keysM M := fun b hb => by rw [inM_all hT] at hb; exact ⟨(hC.add hb).1.r _ (by simp), (hC.add hb).2⟩
    refine a_region ?_
    refine Pstep.go (st_move rfl rfl) ?_
    refine Pstep.go (st_lenMap rfl Tryz.underlying39 rfl) ?_
    refine Pstep.go (st_move rfl rfl) ?_
    refine o_nil ?_
    refine a_block ?_
    refine a_loopP (α := Nat × List (Int × Bool)) (fun q => ⟨43, [(6, (.ptr 10 0 0)), (7, (mapV mv)), (31, (.d (.sl none ((blks p (inM M)).map bkdD)))), (32, (.d (intD ((blks p (inM M)).length : Int)))), (33, (.d (intD (q.1 : Int))))], HM2 p mv (some (List.range q.2.length, q.2.length)) q.2⟩) (fun q => q.1 ≤ (blks p (inM M)).length ∧ allT q.2 ∧ Cl p l (keysM q.2) ∧ (∀ x ∈ keysM M, x ∈ keysM q.2) ∧ (0 < q.1 → (blks p (inM M))[0].m ∈ keysM q.2)) (fun q => (blks p (inM M)).length - q.1) ((0, M)) (⟨Nat.zero_le _, hT, hC, fun _ h => h, fun h => absurd h (Nat.lt_irrefl 0)⟩) (lep_of hF [10, 11, 12, 13] rfl rfl ⟨rfl, rfl, rfl, rfl, rfl, trivial⟩) ?_
    rintro ⟨k, M2⟩ ⟨hk0, hT2, hC2, hsub, hfst⟩
    dsimp only at hk0 hT2 hC2 hsub hfst ⊢
    refine a_seq ?_
    refine a_region ?_
    refine Pstep.go (st_lss rfl rfl rfl) ?_
    refine o_nil ?_
    refine a_seq ?_
    refine a_if rfl (fun h34 => ?_) (fun h34 => ?_)
    · have hk1 : k < (blks p (inM M)).length := lt_cast h34
      refine a_skip ?_
      refine a_seq ?_
      refine a_block ?_
      refine a_seq ?_
      refine a_region ?_
      refine Pstep.go (st_indexD (k) rfl rfl (rfl) (getm hk1) Tryz.underlying39 rfl sz49 rfl) ?_
      refine Pstep.go (st_loadDS rfl rfl rw49 rfl) ?_
      refine Estep.go (st_alloc 2 zl49 rfl rfl rfl rfl) ?_
      refine Estep.go (st_storeP rfl rfl rfl rfl rfl rfl rfl sz49) ?_
      refine o_nil ?_
      refine a_region ?_
      refine Pstep.go (st_move rfl rfl) ?_
      refine o_rawMap 37 13 0 rfl rfl ?_
      refine Pstep.go (st_fieldP rfl fi49_1 rfl rfl rfl) ?_
      refine Pstep.go (st_loadP rfl rfl rfl on3 rfl) ?_
      refine Estep.go (st_mapU (M2) ((blks p (inM M))[k].m) (true) rfl rfl rfl mt108 kt3 rfl rfl) ?_
      refine o_nil ?_
      refine a_region ?_
      refine Pstep.go (st_add rfl rfl (wrapS (k + 1) (by omega)) rfl) ?_
      refine Pstep.go (st_move rfl rfl) ?_
      refine o_nil ?_
      exact ⟨(k + 1, mput M2 (blks p (inM M))[k].m true), ⟨by show k + 1 ≤ _; omega, allT_put hT2 _, hC2.put (hmem _ (List.getElem_mem hk1)).1, fun x hx => by show x ∈ keysM (mput M2 _ true); rw [keys_put]; split; exact hsub x hx; exact List.mem_append.2 (.inl (hsub x hx)), fun _ => by show _ ∈ keysM (mput M2 _ true); rw [keys_put]; rcases Nat.eq_zero_or_pos k with hk | hk; subst hk; split; assumption; simp; split; exact hfst hk; exact List.mem_append.2 (.inl (hfst hk))⟩, by show (blks p (inM M)).length - (k + 1) < (blks p (inM M)).length - k; omega, lep_of hF [10, 11, 12, 13] rfl (rfl) ⟨rfl, rfl, rfl, rfl, rfl, trivial⟩⟩
    · have hdec : ((p.it.map Itm.id).filter fun x => !inL (keysM M2) x).length < ((p.it.map Itm.id).filter fun x => !inL (keysM M) x).length := Cl.dec ((hmem _ (List.getElem_mem hw0)).1.ids h0 hS) (hmem _ (List.getElem_mem hw0)).2 (hfst (by have h := h34; omega)) hsub
      refine a_exit ?_
      refine a_region ?_
      refine Pstep.go (st_move rfl rfl) ?_
      refine Pstep.go (st_move rfl rfl) ?_
      refine Estep.go (st_callD (hbk mv M2) rfl [10, 11, 12, 13] ⟨rfl, rfl, rfl, rfl, trivial⟩ rfl rfl rfl rfl rfl rfl rfl rfl rfl) ?_
      refine Pstep.go (st_assign rfl rfl) ?_
      refine o_nil ?_
      exact ⟨M2, ⟨hT2, hC2⟩, hdec, lep_of hF [10, 11, 12, 13] rfl (rfl) ⟨rfl, rfl, rfl, trivial⟩⟩
  · refine a_exit ?_
    refine a_seq ?_
    have hb0 : blks p (inL (keysM M)) = [] := by rw [← inM_all hT]; exact List.eq_nil_of_length_eq_zero (by have h := h27; omega)
    have hML : M.length ≤ 100000 := by have h3 := hC.len h0 hS; unfold keysM at h3; rw [List.length_map] at h3; omega
    have hfin : sortI (trueK M) = cloS p l := by rw [trueK_all hT]; exact hC.done h0 hS hb0
    have hfl : (trueK M).length = (cloS p l).length := by rw [← hfin, sortI_len]
    refine a_region ?_
    refine Pstep.go (st_move rfl rfl) ?_
    refine Estep.go (st_callD (sorted_c mv (List.range M.length) M.length M (by simp) hML) rfl [12, 13, 900] ⟨rfl, rfl, rfl, trivial⟩ rfl rfl rfl rfl rfl rfl rfl rfl rfl) ?_
    refine Pstep.go (st_assign rfl rfl) ?_
    refine Pstep.go (st_assign rfl rfl) ?_
    refine o_nil ?_
    refine a_ret ?_
    exact ⟨_, [900], _, res_of rfl, rfl, rfl, by rw [hfl], by rw [hfin]⟩
end Go.Proofs.YtnamabifclidmaaGreat
/- Layer 29: the largest admissible subset; the package's Interior. -/
namespace Go.Proofs.YtnamabifclidmaaGreat
open Go.RowKit

/-- What cannot settle within S. -/
inductive Drp (p : Prb) (S : List Int) : Int → Prop
  | base {i : Int} {b : Bkd} (hb : b ∈ req p i) (h : b.m ∉ S) : Drp p S i
  | step {i : Int} {b : Bkd} (hb : b ∈ req p i) (h : Drp p S b.m) : Drp p S i
theorem req_i {p : Prb} {i : Int} {b : Bkd} (hb : b ∈ req p i) : b.i = i := by
  unfold req at hb
  rcases List.mem_append.1 hb with h | h
  · unfold reqA at h; obtain ⟨x, _, rfl⟩ := List.mem_map.1 h; rfl
  · obtain ⟨y, _, h⟩ := List.mem_flatMap.1 h
    unfold reqL at h; obtain ⟨z, _, rfl⟩ := List.mem_map.1 h; rfl
noncomputable def intS (p : Prb) (S : List Int) : List Int := sortI (S.filter fun x => @decide (¬ Drp p S x) (Classical.propDecidable _))
/-- A set on its way to the interior. -/
structure Ci (p : Prb) (S C : List Int) : Prop where
  n : C.Nodup
  s : ∀ x ∈ C, x ∈ S
  r : ∀ x ∈ S, x ∉ C → Drp p S x
theorem Ci.done {p : Prb} {S C : List Int} (h : Ci p S C) (hp : prbE p = 0) (hn : S.Nodup) (hS : ∀ x ∈ S, x ∈ p.it.map Itm.id) (h0 : blks p (inL C) = []) : sortI C = intS p S := by
  have key : ∀ x, Drp p S x → x ∉ C := fun x hx => by
    induction hx with
    | @base i b hb hm =>
      intro hi
      have h1 := blks_none hp h0 (hS _ (h.s _ hi)) (decide_eq_true hi) hb
      exact hm (h.s _ (by simpa [inL] using h1))
    | @step i b hb _ ih =>
      intro hi
      have h1 := blks_none hp h0 (hS _ (h.s _ hi)) (decide_eq_true hi) hb
      exact ih (by simpa [inL] using h1)
  unfold intS
  refine sortI_eq ((List.perm_ext_iff_of_nodup h.n (List.Nodup.sublist List.filter_sublist hn)).2 fun x => ?_)
  rw [List.mem_filter]
  constructor
  · intro hx; exact ⟨h.s x hx, by simpa using fun hd => key x hd hx⟩
  · intro hx
    have h2 : ¬ Drp p S x := by simpa using hx.2
    exact Classical.byContradiction fun hc => h2 (h.r x hx.1 hc)
theorem Ci.drop {p : Prb} {S C : List Int} (h : Ci p S C) {b : Bkd} (hb : b ∈ blks p (inL C)) : Drp p S b.i ∧ b.i ∈ C := by
  obtain ⟨i, _, h2, h3, h4⟩ := blks_mem hb
  have hi : i ∈ C := by simpa [inL] using h2
  have hm : b.m ∉ C := by simpa [inL] using h4
  rw [req_i h3]
  refine ⟨?_, hi⟩
  by_cases hs : b.m ∈ S
  · exact .step h3 (h.r _ hs hm)
  · exact .base h3 hs
theorem Ci.rest {p : Prb} {S C : List Int} (h : Ci p S C) {x : Int} (hx : Drp p S x) : Ci p S (C.filter fun y => decide (y ≠ x)) := by
  refine ⟨List.Nodup.sublist List.filter_sublist h.n, fun y hy => h.s y (List.mem_filter.1 hy).1, fun y hy hn => ?_⟩
  by_cases hc : y ∈ C
  · by_cases e : y = x
    · subst e; exact hx
    · exact absurd (List.mem_filter.2 ⟨hc, by simpa using e⟩) hn
  · exact h.r y hy hc
theorem mix_keys (M : List (Int × Bool)) (x : Int) : mix M x = (keysM M).idxOf x := by
  induction M with
  | nil => rfl
  | cons e r ih =>
    obtain ⟨k, v⟩ := e
    show (if x = k then 0 else mix r x + 1) = (k :: keysM r).idxOf x
    rw [ih, List.idxOf_cons]
    by_cases e : x = k
    · subst e; simp
    · have : (k == x) = false := by simpa using fun h => e h.symm
      rw [if_neg e, this]; rfl
theorem keys_del {M : List (Int × Bool)} (hn : (keysM M).Nodup) (x : Int) : keysM (mdel M x) = (keysM M).filter fun y => decide (y ≠ x) := by
  unfold mdel
  rw [mix_keys]
  show ((M.eraseIdx _).map Prod.fst) = _
  rw [map_del]
  show (keysM M).eraseIdx _ = _
  rw [← List.erase_eq_eraseIdx_of_idxOf rfl, List.Nodup.erase_eq_filter hn]
  apply List.filter_congr
  intro y _
  by_cases e : y = x
  · subst e; simp
  · simp [e]
theorem allT_del {M : List (Int × Bool)} (h : allT M) (x : Int) : allT (mdel M x) := fun e he => h e ((List.eraseIdx_sublist _ _).mem he)
theorem Ci.del {p : Prb} {S : List Int} {M : List (Int × Bool)} (h : Ci p S (keysM M)) {x : Int} (hx : Drp p S x) : Ci p S (keysM (mdel M x)) := by
  rw [keys_del h.n]; exact h.rest hx
theorem mdel_len (M : List (Int × Bool)) (x : Int) : (mdel M x).length ≤ M.length := (List.eraseIdx_sublist _ _).length_le
theorem mdel_lt {M : List (Int × Bool)} {x : Int} (h : x ∈ keysM M) : (mdel M x).length < M.length := by
  unfold mdel
  have h1 : (keysM M).idxOf x < (keysM M).length := List.idxOf_lt_length_of_mem h
  have h2 : (keysM M).length = M.length := List.length_map _
  rw [List.length_eraseIdx, mix_keys, if_pos (by omega)]; omega
set_option maxRecDepth 100000 in
theorem intF_c (p : Prb) (l : List Int) (hb : PrbB p) (hl : l.length ≤ 1000) (h1 : p.it.length ≤ 1000) (h2 : p.ro.length ≤ 1000) (hE : choE p l = 0) (hn : l.Nodup) (hS : ∀ x ∈ l, x ∈ p.it.map Itm.id) : ACalls Tryz.prog 29 [.d (prbD p), .d (.sl none (l.map intD))] [] fun r H' => r = .tup [.own 900 0 (intS p l).length, .d (intD 0)] ∧ H' = [(900, [.rowD 3 1 ((intS p l).map intD)])] := by
  have hpr := (prepare_ok p l hb (by omega) hE).by [(2, 12)] rfl
  have h0 := choE_prb hE
  have hbk := fun mv M => blocks_c p mv none M hb h1 h2
  refine a_enter Tryz.func29 rfl rfl Tryz.ntmps29 rfl rfl rfl fun F hF => ?_
  refine a_seq ?_
  refine a_region ?_
  refine Estep.go (st_box 1 rfl rfl rfl rfl rfl rfl rfl) ?_
  refine Pstep.go (st_assign rfl rfl) ?_
  refine Pstep.go (st_assign rfl rfl) ?_
  refine o_nil ?_
  refine a_seq ?_
  refine a_region ?_
  refine Pstep.go (st_loadPS rfl rfl rw35 rfl rfl rfl) ?_
  refine Pstep.go (st_move rfl rfl) ?_
  refine Estep.go (st_callD hpr rfl [10, 11, 12] ⟨rfl, rfl, rfl, trivial⟩ rfl rfl rfl rfl rfl rfl rfl rfl rfl) ?_
  refine Pstep.go (st_move rfl rfl) ?_
  refine Pstep.go (st_extract rfl rfl rfl) ?_
  refine Pstep.go (st_extract rfl rfl rfl) ?_
  refine Pstep.go (st_extract rfl rfl rfl) ?_
  refine Pstep.go (st_assign rfl rfl) ?_
  refine Pstep.go (st_assign rfl rfl) ?_
  refine Pstep.go (st_assign rfl rfl) ?_
  refine o_nil ?_
  refine a_seq ?_
  refine a_seq ?_
  refine a_region ?_
  refine Pstep.go (st_move rfl rfl) ?_
  refine Pstep.go (st_neq rfl rfl rfl) ?_
  refine o_nil ?_
  refine a_false rfl ((by decide)) ?_
  refine a_skip ?_
  refine a_seq ?_
  refine a_seq ?_
  refine a_ghostM 13 12 0 rfl rfl rfl rfl rfl fun mv => ?_
  refine a_toRaw 7 13 0 (.inl rfl) rfl ?_
  refine a_hide 12 rfl rfl ?_
  refine a_region ?_
  refine Pstep.go (st_move rfl rfl) ?_
  refine Pstep.go (st_move rfl rfl) ?_
  refine Estep.go (st_callD (hbk mv (setM l)) rfl [10, 11, 12, 13] ⟨rfl, rfl, rfl, rfl, trivial⟩ rfl rfl rfl rfl rfl rfl rfl rfl rfl) ?_
  refine Pstep.go (st_assign rfl rfl) ?_
  refine o_nil ?_
  refine a_block ?_
  refine a_loopP (α := List (Int × Bool)) (fun M => ⟨43, [(6, (.ptr 10 0 0)), (7, (mapV mv)), (9, (.d (.sl none ((blks p (inM M)).map bkdD))))], HM2 p mv none M⟩) (fun M => allT M ∧ Ci p l (keysM M) ∧ M.length ≤ l.length) (fun M => M.length) (setM l) (⟨setM_all l, by rw [setM_keys]; exact ⟨hn, fun _ h => h, fun _ h hc => absurd h hc⟩, by unfold setM; rw [List.length_map]; exact Nat.le_refl _⟩) (lep_of hF [10, 11, 12, 13] rfl rfl ⟨rfl, rfl, rfl, trivial⟩) ?_
  rintro M ⟨hT, hC, hML⟩
  refine a_seq ?_
  refine a_seq ?_
  refine a_region ?_
  refine Pstep.go (st_move rfl rfl) ?_
  have hWl : (blks p (inM M)).length ≤ 1100000000 := blks_len1 hb h1 h2 _
  refine Pstep.go (st_lenMap rfl Tryz.underlying39 rfl) ?_
  refine Pstep.go (st_gtr rfl rfl rfl) ?_
  refine o_nil ?_
  refine a_if rfl (fun h27 => ?_) (fun h27 => ?_)
  · refine a_skip ?_
    refine a_seq ?_
    refine a_block ?_
    refine a_seq ?_
    have hw0 : 0 < (blks p (inM M)).length := by have h := h27; omega
    have hmem : ∀ b ∈ blks p (inM M), Drp p l b.i ∧ b.i ∈ keysM M := fun b hb => by rw [inM_all hT] at hb; exact hC.drop hb
    refine a_region ?_
    refine Pstep.go (st_move rfl rfl) ?_
    refine Pstep.go (st_lenMap rfl Tryz.underlying39 rfl) ?_
    refine Pstep.go (st_move rfl rfl) ?_
    refine o_nil ?_
    refine a_block ?_
    refine a_loopP (α := Nat × List (Int × Bool)) (fun q => ⟨43, [(6, (.ptr 10 0 0)), (7, (mapV mv)), (31, (.d (.sl none ((blks p (inM M)).map bkdD)))), (32, (.d (intD ((blks p (inM M)).length : Int)))), (33, (.d (intD (q.1 : Int))))], HM2 p mv none q.2⟩) (fun q => q.1 ≤ (blks p (inM M)).length ∧ allT q.2 ∧ Ci p l (keysM q.2) ∧ q.2.length ≤ M.length ∧ (0 < q.1 → q.2.length < M.length) ∧ (q.1 = 0 → q.2 = M)) (fun q => (blks p (inM M)).length - q.1) ((0, M)) (⟨Nat.zero_le _, hT, hC, Nat.le_refl _, fun h => absurd h (Nat.lt_irrefl 0), fun _ => rfl⟩) (lep_of hF [10, 11, 12, 13] rfl rfl ⟨rfl, rfl, rfl, rfl, rfl, trivial⟩) ?_
    rintro ⟨k, M2⟩ ⟨hk0, hT2, hC2, hle, hlt, hz⟩
    dsimp only at hk0 hT2 hC2 hle hlt hz ⊢
    refine a_seq ?_
    refine a_region ?_
    refine Pstep.go (st_lss rfl rfl rfl) ?_
    refine o_nil ?_
    refine a_seq ?_
    refine a_if rfl (fun h34 => ?_) (fun h34 => ?_)
    · have hk1 : k < (blks p (inM M)).length := lt_cast h34
      refine a_skip ?_
      refine a_seq ?_
      refine a_block ?_
      refine a_seq ?_
      refine a_region ?_
      refine Pstep.go (st_indexD (k) rfl rfl (rfl) (getm hk1) Tryz.underlying39 rfl sz49 rfl) ?_
      refine Pstep.go (st_loadDS rfl rfl rw49 rfl) ?_
      refine Estep.go (st_alloc 2 zl49 rfl rfl rfl rfl) ?_
      refine Estep.go (st_storeP rfl rfl rfl rfl rfl rfl rfl sz49) ?_
      refine o_nil ?_
      refine a_region ?_
      refine Pstep.go (st_move rfl rfl) ?_
      refine o_rawMap 37 13 0 rfl rfl ?_
      refine Pstep.go (st_fieldP rfl fi49_0 rfl rfl rfl) ?_
      refine Pstep.go (st_loadP rfl rfl rfl on3 rfl) ?_
      refine Estep.go (st_del (M2) ((blks p (inM M))[k].i) (false) rfl rfl rfl mt108 kt3 rfl) ?_
      refine o_nil ?_
      refine a_region ?_
      refine Pstep.go (st_add rfl rfl (wrapS (k + 1) (by omega)) rfl) ?_
      refine Pstep.go (st_move rfl rfl) ?_
      refine o_nil ?_
      exact ⟨(k + 1, mdel M2 (blks p (inM M))[k].i), ⟨by show k + 1 ≤ _; omega, allT_del hT2 _, hC2.del (hmem _ (List.getElem_mem hk1)).1, Nat.le_trans (mdel_len _ _) hle, fun _ => by show (mdel M2 _).length < _; rcases Nat.eq_zero_or_pos k with hk | hk; subst hk; rw [hz rfl]; exact mdel_lt (hmem _ (List.getElem_mem hk1)).2; exact Nat.lt_of_le_of_lt (mdel_len _ _) (hlt hk), fun h => absurd h (Nat.succ_ne_zero k)⟩, by show (blks p (inM M)).length - (k + 1) < (blks p (inM M)).length - k; omega, lep_of hF [10, 11, 12, 13] rfl (rfl) ⟨rfl, rfl, rfl, rfl, rfl, trivial⟩⟩
    · have hdec : M2.length < M.length := hlt (by have h := h34; omega)
      refine a_exit ?_
      refine a_region ?_
      refine Pstep.go (st_move rfl rfl) ?_
      refine Pstep.go (st_move rfl rfl) ?_
      refine Estep.go (st_callD (hbk mv M2) rfl [10, 11, 12, 13] ⟨rfl, rfl, rfl, rfl, trivial⟩ rfl rfl rfl rfl rfl rfl rfl rfl rfl) ?_
      refine Pstep.go (st_assign rfl rfl) ?_
      refine o_nil ?_
      exact ⟨M2, ⟨hT2, hC2, Nat.le_trans hle hML⟩, hdec, lep_of hF [10, 11, 12, 13] rfl (rfl) ⟨rfl, rfl, rfl, trivial⟩⟩
  · refine a_exit ?_
    refine a_seq ?_
    have hb0 : blks p (inL (keysM M)) = [] := by rw [← inM_all hT]; exact List.eq_nil_of_length_eq_zero (by have h := h27; omega)
    have hfin : sortI (trueK M) = intS p l := by rw [trueK_all hT]; exact hC.done h0 hn hS hb0
    have hfl : (trueK M).length = (intS p l).length := by rw [← hfin, sortI_len]
    refine a_births 12 rfl fun B c hB _ => ⟨_, rfl, ?_⟩
    refine a_region ?_
    refine Pstep.go (st_move rfl rfl) ?_
    refine Estep.go (st_callD (sorted_c mv B c M (by rw [hB]; simp [ents]) (by omega)) rfl [12, 13, 900] ⟨rfl, rfl, rfl, trivial⟩ rfl rfl rfl rfl rfl rfl rfl rfl rfl) ?_
    refine Pstep.go (st_assign rfl rfl) ?_
    refine Pstep.go (st_assign rfl rfl) ?_
    refine o_nil ?_
    refine a_ret ?_
    exact ⟨_, [900], _, res_of rfl, rfl, rfl, by rw [hfl], by rw [hfin]⟩
end Go.Proofs.YtnamabifclidmaaGreat
/- Layer 29: the reference's Interior; the law of closures and interiors. -/
namespace Go.Proofs.YtnamabifclidmaaGreat
open Go.RowKit

set_option maxRecDepth 100000 in
theorem refint_p (p : Prb) (l : List Int) (hv : PV p) (hl : l.length ≤ 1000) (hn : l.Nodup) (hS : ∀ x ∈ l, x ∈ p.it.map Itm.id) : PCalls Tryz.prog 32 [.d (prbD p), .d (.sl none (l.map intD))] (.sl none ((intS p l).map intD)) := by
  refine a_enter Tryz.func32 rfl rfl Tryz.ntmps32 rfl rfl rfl fun F hF => ?_
  refine a_seq ?_
  refine a_region ?_
  refine Estep.go (st_box 1 rfl rfl rfl rfl rfl rfl rfl) ?_
  refine Pstep.go (st_assign rfl rfl) ?_
  refine o_nil ?_
  refine a_seq ?_
  refine a_region ?_
  refine Estep.go (st_buildSlice 30 sl26 rfl rfl rfl rfl rfl rfl rfl rfl) ?_
  refine Pstep.go (st_move rfl rfl) ?_
  refine Estep.go (st_appMD (([] : List Int)) (l) rfl rfl rfl rfl rfl rfl (fun _ => rfl) sl26 (by simp only [List.length_nil]; omega) rfl rfl rfl rfl) ?_
  refine o_freezeM (emb := intD) 11 30 (([] : List Int) ++ l) rfl rfl rfl rfl rfl rfl rfl ?_
  refine Pstep.go (st_assign rfl rfl) ?_
  refine o_nil ?_
  refine a_block ?_
  refine a_loopP (α := List Int) (fun out => ⟨43, [(2, (.ptr 1 0 0)), (5, (.d (.sl none (out.map intD))))], [(1, [prbB2 25 p])]⟩) (fun out => Ci p l out ∧ out.length ≤ l.length) (fun out => out.length) (l) (⟨⟨hn, fun _ h => h, fun _ h hc => absurd h hc⟩, Nat.le_refl _⟩) (lep_of hF [1] rfl rfl ⟨rfl, rfl, trivial⟩) ?_
  rintro out ⟨hC, hol⟩
  refine a_block ?_
  refine a_seq ?_
  refine a_region ?_
  refine Pstep.go (st_loadPS rfl rfl rw25 rfl rfl rfl) ?_
  refine Pstep.go (st_move rfl rfl) ?_
  refine Pstep.go (st_callP (blocks29_p p out hv (by omega)) rfl rfl) ?_
  refine Pstep.go (st_assign rfl rfl) ?_
  refine o_nil ?_
  refine a_seq ?_
  refine a_seq ?_
  refine a_region ?_
  refine Pstep.go (st_move rfl rfl) ?_
  refine Pstep.go (st_lenMap rfl Tryz.underlying42 rfl) ?_
  refine Pstep.go (st_eql rfl rfl rfl) ?_
  refine o_nil ?_
  refine a_if rfl (fun h17 => ?_) (fun h17 => ?_)
  · refine a_seq ?_
    have hb0 : blks p (inL out) = [] := List.eq_nil_of_length_eq_zero (by have h := h17; omega)
    refine a_region ?_
    refine Pstep.go (st_move rfl rfl) ?_
    refine Pstep.go (st_callP (sort29_p out (by omega)) rfl rfl) ?_
    refine Pstep.go (st_assign rfl rfl) ?_
    refine o_nil ?_
    refine a_ret ?_
    exact ⟨_, [], [], res_of rfl, rfl, rfl, by rw [hC.done hv.e hn hS hb0], rfl⟩
  · refine a_skip ?_
    refine a_seq ?_
    have hw0 : 0 < (blks p (inL out)).length := by have h := h17; omega
    refine a_region ?_
    refine Pstep.go (st_assign rfl rfl) ?_
    refine o_nil ?_
    refine a_seq ?_
    refine a_seq ?_
    refine a_adopt 7 902 sl26 rfl rfl rfl rfl ?_
    refine a_region ?_
    refine Pstep.go (st_assign rfl rfl) ?_
    refine o_nil ?_
    refine a_block ?_
    refine a_loopP (α := Nat × List Int) (fun q => ⟨43, [(2, (.ptr 1 0 0)), (5, (.d (.sl none (out.map intD)))), (6, (.d (.sl none ((blks p (inL out)).map bkdD)))), (7, (.own 902 0 q.2.length)), (8, (.d (intD (q.1 : Int))))], [(1, [prbB2 25 p]), (902, [.rowD 3 1 (q.2.map intD)])]⟩) (fun q => q.1 ≤ out.length ∧ q.2 = (out.take q.1).filter (fun y => decide (y ≠ (blks p (inL out))[0].i))) (fun q => out.length - q.1) ((0, [])) (⟨Nat.zero_le _, rfl⟩) (lep_of hF [1, 902] rfl rfl ⟨rfl, rfl, rfl, rfl, rfl, trivial⟩) ?_
    rintro ⟨k, acc⟩ ⟨hk0, hA⟩
    dsimp only at hk0 hA ⊢
    refine a_seq ?_
    refine a_seq ?_
    refine a_region ?_
    refine Pstep.go (st_move rfl rfl) ?_
    refine Pstep.go (st_move rfl rfl) ?_
    refine Pstep.go (st_lenMap rfl Tryz.underlying26 rfl) ?_
    refine Pstep.go (st_lss rfl rfl rfl) ?_
    refine o_nil ?_
    refine a_if rfl (fun h23 => ?_) (fun h23 => ?_)
    · have hk1 : k < out.length := lt_cast h23
      refine a_skip ?_
      refine a_seq ?_
      refine a_block ?_
      refine a_seq ?_
      refine a_drawn [[], [], [0, 1], [0, 1, 2], [], [4], [4, 5], [4, 5, 6], [0, 1, 2, 3, 4, 5, 6, 7]] mixed rfl ?_
      refine dws ?_
      refine d_pure [5] [] rfl rfl (fun _ => gp_none (st_move rfl rfl)) ?_
      refine d_pure [8] [] rfl rfl (fun _ => gp_none (st_move rfl rfl)) ?_
      refine d_pure [26, 27] [] rfl rfl (fun _ => gp_none (st_indexD (k) rfl rfl (rfl) (getm hk1) Tryz.underlying26 rfl sz3 rfl)) ?_
      refine d_pure [28] [] rfl rfl (fun _ => gp_none (st_loadD1 rfl rfl on3 rfl)) ?_
      refine d_pure [6] [] rfl rfl (fun _ => gp_none (st_move rfl rfl)) ?_
      refine d_pure [30] [] rfl rfl (fun _ => gp_none (st_indexD (0) rfl rfl (rfl) (getm hw0) Tryz.underlying42 rfl sz54 rfl)) ?_
      refine d_pure [31] [] rfl rfl (fun _ => gp_none (st_fieldF1 rfl fi54_0 rfl rfl rfl)) ?_
      refine d_pure [32] [] rfl rfl (fun _ => gp_none (st_loadD1 rfl rfl on3 rfl)) ?_
      refine dwc 8 rfl rfl rfl ?_
      refine dw1 9 rfl rfl ?_
      refine Pstep.go (st_neq rfl rfl rfl) ?_
      refine o_nil ⟨rfl, ?_⟩
      refine dwe ?_
      refine a_if rfl (fun h34 => ?_) (fun h34 => ?_)
      · refine a_region ?_
        refine Pstep.go (st_move rfl rfl) ?_
        refine Pstep.go (st_move rfl rfl) ?_
        refine Pstep.go (st_move rfl rfl) ?_
        refine Pstep.go (st_indexD (k) rfl rfl (rfl) (getm hk1) Tryz.underlying26 rfl sz3 rfl) ?_
        refine Pstep.go (st_loadD1 rfl rfl on3 rfl) ?_
        refine Estep.go (st_buildSlice 31 sl26 rfl rfl rfl rfl rfl rfl rfl rfl) ?_
        have hal : acc.length ≤ 1000 := by have h4 := List.length_filter_le (fun y => decide (y ≠ (blks p (inL out))[0].i)) (out.take k); rw [← hA, List.length_take] at h4; omega
        refine Estep.go (st_appM (acc) ([out[k]]) rfl rfl rfl rfl rfl rfl rfl rfl sl26 (by simp only [List.length_singleton]; omega) rfl rfl rfl rfl) ?_
        refine Pstep.go (st_assign rfl rfl) ?_
        refine o_nil ?_
        refine a_region ?_
        refine Pstep.go (st_move rfl rfl) ?_
        refine Pstep.go (st_add rfl rfl (wrapS (k + 1) (by omega)) rfl) ?_
        refine Pstep.go (st_assign rfl rfl) ?_
        refine o_nil ?_
        exact ⟨(k + 1, acc ++ [out[k]]), ⟨by show k + 1 ≤ _; omega, by show acc ++ [out[k]] = (out.take (k + 1)).filter _; rw [flt_snoc hk1, if_pos (by simpa using h34), ← hA]⟩, by show out.length - (k + 1) < out.length - k; omega, lep_of hF [1, 902] rfl (rfl) ⟨rfl, rfl, rfl, rfl, rfl, trivial⟩⟩
      · refine a_skip ?_
        refine a_region ?_
        refine Pstep.go (st_move rfl rfl) ?_
        refine Pstep.go (st_add rfl rfl (wrapS (k + 1) (by omega)) rfl) ?_
        refine Pstep.go (st_assign rfl rfl) ?_
        refine o_nil ?_
        exact ⟨(k + 1, acc), ⟨by show k + 1 ≤ _; omega, by show acc = (out.take (k + 1)).filter _; rw [flt_snoc hk1, if_neg (by simpa using h34), List.append_nil, ← hA]⟩, by show out.length - (k + 1) < out.length - k; omega, lep_of hF [1, 902] rfl (rfl) ⟨rfl, rfl, rfl, rfl, rfl, trivial⟩⟩
    · refine a_exit ?_
      have hacc : acc = out.filter (fun y => decide (y ≠ (blks p (inL out))[0].i)) := by rw [hA, List.take_of_length_le (by have h := h23; omega)]
      have hlt : acc.length < out.length := by rw [hacc]; exact List.length_filter_lt_length_iff_exists.2 ⟨_, (hC.drop (List.getElem_mem hw0)).2, by simp⟩
      refine a_freezeM (emb := intD) 7 902 acc rfl rfl rfl rfl rfl rfl rfl ?_
      refine a_region ?_
      refine Pstep.go (st_move rfl rfl) ?_
      refine Pstep.go (st_assign rfl rfl) ?_
      refine o_nil ?_
      exact ⟨acc, ⟨by rw [hacc]; exact hC.rest (hC.drop (List.getElem_mem hw0)).1, Nat.le_trans (Nat.le_of_lt hlt) hol⟩, hlt, lep_of hF [1] rfl (rfl) ⟨rfl, rfl, trivial⟩⟩
set_option maxRecDepth 100000 in
theorem equal29_p (a b : List Int) (ha : a.length ≤ 100000) : PCalls Tryz.prog 30 [.d (.sl none (a.map intD)), .d (.sl none (b.map intD))] (boolD (decide (a = b))) := by
  refine a_enter Tryz.func30 rfl rfl Tryz.ntmps30 rfl rfl rfl fun F hF => ?_
  refine a_seq ?_
  refine a_region ?_
  refine Pstep.go (st_assign rfl rfl) ?_
  refine o_nil ?_
  refine a_seq ?_
  refine a_seq ?_
  refine a_region ?_
  refine Pstep.go (st_move rfl rfl) ?_
  refine Pstep.go (st_lenMap rfl Tryz.underlying26 rfl) ?_
  refine Pstep.go (st_move rfl rfl) ?_
  refine Pstep.go (st_lenMap rfl Tryz.underlying26 rfl) ?_
  refine Pstep.go (st_neq rfl rfl rfl) ?_
  refine o_nil ?_
  refine a_if rfl (fun h10 => ?_) (fun h10 => ?_)
  · refine a_seq ?_
    refine a_region ?_
    refine Pstep.go (st_assign rfl rfl) ?_
    refine o_nil ?_
    refine a_ret ?_
    exact ⟨_, [], [], res_of rfl, rfl, rfl, retF (fun h => h10 (by rw [h])), rfl⟩
  · refine a_skip ?_
    refine a_seq ?_
    refine a_seq ?_
    refine a_region ?_
    refine Pstep.go (st_assign rfl rfl) ?_
    refine o_nil ?_
    refine a_block ?_
    refine a_loop (α := Nat) (fun k => ⟨26, [(0, .d (.sl none (a.map intD))), (1, .d (.sl none (b.map intD))), (5, (.d (intD (k : Int))))], []⟩) (fun k => k ≤ a.length ∧ a.take k = b.take k) (fun k => a.length - k) (0) (⟨Nat.zero_le _, by simp⟩) (le_of_has ⟨rfl, rfl, rfl, trivial⟩) ?_
    rintro k ⟨hk0, hk⟩
    refine a_seq ?_
    refine a_seq ?_
    refine a_region ?_
    refine Pstep.go (st_move rfl rfl) ?_
    refine Pstep.go (st_move rfl rfl) ?_
    refine Pstep.go (st_lenMap rfl Tryz.underlying26 rfl) ?_
    refine Pstep.go (st_lss rfl rfl rfl) ?_
    refine o_nil ?_
    refine a_if rfl (fun h14 => ?_) (fun h14 => ?_)
    · have hk1 : k < a.length := lt_cast h14
      refine a_skip ?_
      refine a_seq ?_
      refine a_block ?_
      refine a_seq ?_
      refine a_drawn [[], [], [0, 1], [0, 1, 2], [], [], [4, 5], [4, 5, 6], [0, 1, 2, 3, 4, 5, 6, 7]] mixed rfl ?_
      refine dws ?_
      have hk2 : k < b.length := by omega
      refine d_pure [0] [] rfl rfl (fun _ => gp_none (st_move rfl rfl)) ?_
      refine d_pure [5] [] rfl rfl (fun _ => gp_none (st_move rfl rfl)) ?_
      refine d_pure [17, 18] [] rfl rfl (fun _ => gp_none (st_indexD (k) rfl rfl (rfl) (getm hk1) Tryz.underlying26 rfl sz3 rfl)) ?_
      refine d_pure [19] [] rfl rfl (fun _ => gp_none (st_loadD1 rfl rfl on3 rfl)) ?_
      refine d_pure [1] [] rfl rfl (fun _ => gp_none (st_move rfl rfl)) ?_
      refine d_pure [5] [] rfl rfl (fun _ => gp_none (st_move rfl rfl)) ?_
      refine d_pure [21, 22] [] rfl rfl (fun _ => gp_none (st_indexD (k) rfl rfl (rfl) (getm hk2) Tryz.underlying26 rfl sz3 rfl)) ?_
      refine d_pure [23] [] rfl rfl (fun _ => gp_none (st_loadD1 rfl rfl on3 rfl)) ?_
      refine dwc 8 rfl rfl rfl ?_
      refine dw1 9 rfl rfl ?_
      refine Pstep.go (st_neq rfl rfl rfl) ?_
      refine o_nil ⟨rfl, ?_⟩
      refine dwe ?_
      refine a_if rfl (fun h25 => ?_) (fun h25 => ?_)
      · refine a_seq ?_
        refine a_region ?_
        refine Pstep.go (st_assign rfl rfl) ?_
        refine o_nil ?_
        refine a_ret ?_
        exact ⟨_, [], [], res_of rfl, rfl, rfl, retF (fun h => h25 (by subst h; rfl)), rfl⟩
      · refine a_skip ?_
        refine a_region ?_
        refine Pstep.go (st_move rfl rfl) ?_
        refine Pstep.go (st_add rfl rfl (wrapS (k + 1) (by omega)) rfl) ?_
        refine Pstep.go (st_assign rfl rfl) ?_
        refine o_nil ?_
        exact ⟨k + 1, ⟨by show k + 1 ≤ _; omega, by rw [List.take_succ_eq_append_getElem hk1, List.take_succ_eq_append_getElem hk2, hk]; congr 2; simpa using h25⟩, by show a.length - (k + 1) < a.length - k; omega, ⟨rfl, rfl, fun _ _ => Has.get (l := [(0, _), (1, _), (5, _)]) ⟨rfl, rfl, rfl, trivial⟩⟩⟩
    · refine a_exit ?_
      refine a_seq ?_
      have hkk : a = b := by have e1 : k = a.length := by { have h := h14; omega }; have e2 := hk; rw [List.take_of_length_le (by omega), List.take_of_length_le (by omega)] at e2; exact e2
      refine a_region ?_
      refine Pstep.go (st_assign rfl rfl) ?_
      refine o_nil ?_
      refine a_ret ?_
      exact ⟨_, [], [], res_of rfl, rfl, rfl, retB3 (by rw [decide_eq_true hkk]), rfl⟩
end Go.Proofs.YtnamabifclidmaaGreat
/- Layer 29: the law of closures and interiors. -/
namespace Go.Proofs.YtnamabifclidmaaGreat
open Go.RowKit

theorem cho_nodup {p : Prb} {l : List Int} (h : choE p l = 0) : l.Nodup := by
  have hp := choE_prb h
  unfold choE at h
  rw [if_neg (by omega)] at h
  unfold setE at h
  rw [List.Nodup, List.pairwise_iff_getElem]
  intro i j hi hj hij e
  have h0 := fst0_all h _ (List.mem_map.2 ⟨j, List.mem_range.2 hj, rfl⟩)
  unfold chErr at h0
  rw [getD_at 0 hj] at h0
  have hm : l[j] ∈ l.take j := by rw [← e]; exact List.mem_take_iff_getElem.2 ⟨i, by omega, rfl⟩
  split at h0
  · cases h0
  · first | (rw [if_pos hm] at h0; cases h0) | simp_all
set_option maxRecDepth 100000 in
theorem closF_bad (p : Prb) (l : List Int) (hb : PrbB p) (hl : l.length ≤ 100000) (hE : choE p l ≠ 0) : PCalls Tryz.prog 28 [.d (prbD p), .d (.sl none (l.map intD))] (.tup [.sl none [], intD (choE p l)]) := by
  have hpr := prepare_bad p l hb hl hE
  refine a_enter Tryz.func28 rfl rfl Tryz.ntmps28 rfl rfl rfl fun F hF => ?_
  refine a_seq ?_
  refine a_region ?_
  refine Estep.go (st_box 1 rfl rfl rfl rfl rfl rfl rfl) ?_
  refine Pstep.go (st_assign rfl rfl) ?_
  refine o_anyNil 4 rfl ?_
  refine Pstep.go (st_assign rfl rfl) ?_
  refine o_nil ?_
  refine a_seq ?_
  refine a_region ?_
  refine Pstep.go (st_loadPS rfl rfl rw35 rfl rfl rfl) ?_
  refine Pstep.go (st_move rfl rfl) ?_
  refine Pstep.go (st_callP (hpr) rfl rfl) ?_
  refine Pstep.go (st_move rfl rfl) ?_
  refine Pstep.go (st_extractD rfl rfl rfl) ?_
  refine Pstep.go (st_extractD rfl rfl rfl) ?_
  refine Pstep.go (st_extractD rfl rfl rfl) ?_
  refine Pstep.go (st_assign rfl rfl) ?_
  refine Pstep.go (st_assign rfl rfl) ?_
  refine Pstep.go (st_assign rfl rfl) ?_
  refine o_nil ?_
  refine a_seq ?_
  refine a_seq ?_
  refine a_region ?_
  refine Pstep.go (st_move rfl rfl) ?_
  refine Pstep.go (st_neq rfl rfl rfl) ?_
  refine o_nil ?_
  refine a_true rfl ((decide_eq_true hE)) ?_
  refine a_seq ?_
  refine a_region ?_
  refine Pstep.go (st_move rfl rfl) ?_
  refine Pstep.go (st_assign rfl rfl) ?_
  refine o_anyNil 4 rfl ?_
  refine Pstep.go (st_assign rfl rfl) ?_
  refine o_nil ?_
  refine a_ret ?_
  exact ⟨_, [], [], res_of rfl, rfl, rfl, rfl, rfl⟩
set_option maxRecDepth 100000 in
theorem intF_bad (p : Prb) (l : List Int) (hb : PrbB p) (hl : l.length ≤ 100000) (hE : choE p l ≠ 0) : PCalls Tryz.prog 29 [.d (prbD p), .d (.sl none (l.map intD))] (.tup [.sl none [], intD (choE p l)]) := by
  have hpr := prepare_bad p l hb hl hE
  refine a_enter Tryz.func29 rfl rfl Tryz.ntmps29 rfl rfl rfl fun F hF => ?_
  refine a_seq ?_
  refine a_region ?_
  refine Estep.go (st_box 1 rfl rfl rfl rfl rfl rfl rfl) ?_
  refine Pstep.go (st_assign rfl rfl) ?_
  refine o_anyNil 4 rfl ?_
  refine Pstep.go (st_assign rfl rfl) ?_
  refine o_nil ?_
  refine a_seq ?_
  refine a_region ?_
  refine Pstep.go (st_loadPS rfl rfl rw35 rfl rfl rfl) ?_
  refine Pstep.go (st_move rfl rfl) ?_
  refine Pstep.go (st_callP (hpr) rfl rfl) ?_
  refine Pstep.go (st_move rfl rfl) ?_
  refine Pstep.go (st_extractD rfl rfl rfl) ?_
  refine Pstep.go (st_extractD rfl rfl rfl) ?_
  refine Pstep.go (st_extractD rfl rfl rfl) ?_
  refine Pstep.go (st_assign rfl rfl) ?_
  refine Pstep.go (st_assign rfl rfl) ?_
  refine Pstep.go (st_assign rfl rfl) ?_
  refine o_nil ?_
  refine a_seq ?_
  refine a_seq ?_
  refine a_region ?_
  refine Pstep.go (st_move rfl rfl) ?_
  refine Pstep.go (st_neq rfl rfl rfl) ?_
  refine o_nil ?_
  refine a_true rfl ((decide_eq_true hE)) ?_
  refine a_seq ?_
  refine a_region ?_
  refine Pstep.go (st_move rfl rfl) ?_
  refine Pstep.go (st_assign rfl rfl) ?_
  refine o_anyNil 4 rfl ?_
  refine Pstep.go (st_assign rfl rfl) ?_
  refine o_nil ?_
  refine a_ret ?_
  exact ⟨_, [], [], res_of rfl, rfl, rfl, rfl, rfl⟩
theorem cloS_len {p : Prb} {l : List Int} : (cloS p l).length ≤ p.it.length := by
  unfold cloS; rw [sortI_len]; exact Nat.le_trans (List.length_filter_le _ _) (by rw [List.length_map]; exact Nat.le_refl _)
theorem intS_len {p : Prb} {l : List Int} : (intS p l).length ≤ l.length := by
  unfold intS; rw [sortI_len]; exact List.length_filter_le _ _
set_option maxRecDepth 100000 in
theorem lawF4_p (p : Prb) (l : List Int) : PCalls Tryz.prog 7 [.d (prbD p), .d (.sl none (l.map intD))] (.raw (.bool true)) := by
  have hk := known29_p
  have hs := small_p p
  by_cases hf : Sml p
  · rw [decide_eq_true hf] at hs
    have c1 := own_p p hf
    have g1 := hf.1
    have g2 := hf.2.1
    have g3 := hf.2.2
    by_cases hl : l.length ≤ 20
    · have c4 := check29_p p l (by omega) (by omega) (fun i hi => by have := g3 i hi; omega) (by omega)
      by_cases h0 : choE p l = 0
      · have c2 := closF_c p l (sml_B hf) (by omega) (by omega) (by omega) h0 (cho_nodup h0) (cho_in h0)
        have c3 := (intF_c p l (sml_B hf) (by omega) (by omega) (by omega) h0 (cho_nodup h0) (cho_in h0)).by [(900, 901)] rfl
        have c5 := refclo_p p l (sml_V hf (choE_prb h0)) (by omega) (cho_nodup h0) (cho_in h0)
        have c6 := refint_p p l (sml_V hf (choE_prb h0)) (by omega) (cho_nodup h0) (cho_in h0)
        have l1 := cloS_len (p := p) (l := l)
        have l2 := intS_len (p := p) (l := l)
        have e1 := equal29_p (cloS p l) (cloS p l) (by omega)
        have e2 := equal29_p (intS p l) (intS p l) (by omega)
        rw [decide_eq_true rfl] at e1 e2
        rw [h0] at c4
        refine a_enter Tryz.func7 rfl rfl Tryz.ntmps7 rfl rfl rfl fun F hF => ?_
        refine a_seq ?_
        refine a_region ?_
        refine Estep.go (st_box 1 rfl rfl rfl rfl rfl rfl rfl) ?_
        refine Pstep.go (st_assign rfl rfl) ?_
        refine o_nil ?_
        refine a_seq ?_
        refine a_seq ?_
        refine a_region ?_
        refine Pstep.go (st_loadPS rfl rfl rw25 rfl rfl rfl) ?_
        refine Pstep.go (st_callP (hs) rfl rfl) ?_
        refine Pstep.go (st_not rfl rfl) ?_
        refine Pstep.go (st_move rfl rfl) ?_
        refine o_setF 13 rfl (rfl) ?_
        refine o_run rfl rfl rfl ?_
        refine Pstep.go (st_move rfl rfl) ?_
        refine o_run rfl rfl rfl ?_
        refine Pstep.go (st_lenMap rfl Tryz.underlying26 rfl) ?_
        refine o_run rfl rfl rfl ?_
        refine Pstep.go (st_gtr rfl rfl rfl) ?_
        refine Pstep.go (st_pickF rfl rfl rfl rfl) ?_
        refine o_nil ?_
        refine a_false rfl ((decide_eq_false (by omega))) ?_
        refine a_skip ?_
        refine a_seq ?_
        refine a_region ?_
        refine Pstep.go (st_loadPS rfl rfl rw25 rfl rfl rfl) ?_
        refine Pstep.go (st_callP (c1) rfl rfl) ?_
        refine Pstep.go (st_move rfl rfl) ?_
        refine Estep.go (st_callD c2 rfl [900] ⟨rfl, trivial⟩ rfl rfl rfl rfl rfl rfl rfl rfl rfl) ?_
        refine Pstep.go (st_move rfl rfl) ?_
        refine Pstep.go (st_extract rfl rfl rfl) ?_
        refine Pstep.go (st_extract rfl rfl rfl) ?_
        refine Pstep.go (st_assign rfl rfl) ?_
        refine Pstep.go (st_assign rfl rfl) ?_
        refine o_nil ?_
        refine a_seq ?_
        refine a_freezeM (emb := intD) 5 900 (cloS p l) rfl rfl rfl rfl rfl rfl rfl ?_
        refine a_region ?_
        refine Pstep.go (st_loadPS rfl rfl rw25 rfl rfl rfl) ?_
        refine Pstep.go (st_callP (c1) rfl rfl) ?_
        refine Pstep.go (st_move rfl rfl) ?_
        refine Estep.go (st_callD c3 rfl [901] ⟨rfl, trivial⟩ rfl rfl rfl rfl rfl rfl rfl rfl rfl) ?_
        refine Pstep.go (st_move rfl rfl) ?_
        refine Pstep.go (st_extract rfl rfl rfl) ?_
        refine Pstep.go (st_extract rfl rfl rfl) ?_
        refine Pstep.go (st_assign rfl rfl) ?_
        refine Pstep.go (st_assign rfl rfl) ?_
        refine o_nil ?_
        refine a_seq ?_
        refine a_freezeM (emb := intD) 7 901 (intS p l) rfl rfl rfl rfl rfl rfl rfl ?_
        refine a_region ?_
        refine Pstep.go (st_loadPS rfl rfl rw25 rfl rfl rfl) ?_
        refine Pstep.go (st_move rfl rfl) ?_
        refine Pstep.go (st_callP (c4) rfl rfl) ?_
        refine Pstep.go (st_assign rfl rfl) ?_
        refine o_nil ?_
        refine a_seq ?_
        refine a_seq ?_
        refine a_region ?_
        refine Pstep.go (st_move rfl rfl) ?_
        refine Pstep.go (st_move rfl rfl) ?_
        refine Pstep.go (st_neq rfl rfl rfl) ?_
        refine Pstep.go (st_move rfl rfl) ?_
        refine o_setF 39 rfl (rfl) ?_
        refine o_run rfl rfl rfl ?_
        refine Pstep.go (st_move rfl rfl) ?_
        refine o_run rfl rfl rfl ?_
        refine Pstep.go (st_move rfl rfl) ?_
        refine o_run rfl rfl rfl ?_
        refine Pstep.go (st_neq rfl rfl rfl) ?_
        refine Pstep.go (st_pickF rfl rfl rfl rfl) ?_
        refine o_nil ?_
        refine a_false rfl (rfl) ?_
        refine a_skip ?_
        refine a_seq ?_
        refine a_seq ?_
        refine a_region ?_
        refine Pstep.go (st_move rfl rfl) ?_
        refine Pstep.go (st_neq rfl rfl rfl) ?_
        refine o_nil ?_
        refine a_false rfl (rfl) ?_
        refine a_skip ?_
        refine a_seq ?_
        refine a_region ?_
        refine Pstep.go (st_callP (hk) rfl rfl) ?_
        refine Pstep.go (st_move rfl rfl) ?_
        refine o_setT 56 rfl (rfl) ?_
        refine o_run rfl rfl rfl ?_
        refine Pstep.go (st_move rfl rfl) ?_
        refine o_run rfl rfl rfl ?_
        refine Pstep.go (st_loadPS rfl rfl rw25 rfl rfl rfl) ?_
        refine o_run rfl rfl rfl ?_
        refine Pstep.go (st_move rfl rfl) ?_
        refine o_run rfl rfl rfl ?_
        refine Pstep.go (st_callP (c5) rfl rfl) ?_
        refine o_run rfl rfl rfl ?_
        refine Pstep.go (st_callP (e1) rfl rfl) ?_
        refine Pstep.go (st_pickT rfl rfl rfl rfl) ?_
        refine Pstep.go (st_move rfl rfl) ?_
        refine o_setT 63 rfl (rfl) ?_
        refine o_run rfl rfl rfl ?_
        refine Pstep.go (st_move rfl rfl) ?_
        refine o_run rfl rfl rfl ?_
        refine Pstep.go (st_loadPS rfl rfl rw25 rfl rfl rfl) ?_
        refine o_run rfl rfl rfl ?_
        refine Pstep.go (st_move rfl rfl) ?_
        refine o_run rfl rfl rfl ?_
        refine Pstep.go (st_callP (c6) rfl rfl) ?_
        refine o_run rfl rfl rfl ?_
        refine Pstep.go (st_callP (e2) rfl rfl) ?_
        refine Pstep.go (st_pickT rfl rfl rfl rfl) ?_
        refine Pstep.go (st_assign rfl rfl) ?_
        refine o_nil ?_
        refine a_ret ?_
        exact ⟨_, [], [], res_of rfl, rfl, rfl, rfl, rfl⟩
      · have c2 := closF_bad p l (sml_B hf) (by omega) h0
        have c3 := intF_bad p l (sml_B hf) (by omega) h0
        refine a_enter Tryz.func7 rfl rfl Tryz.ntmps7 rfl rfl rfl fun F hF => ?_
        refine a_seq ?_
        refine a_region ?_
        refine Estep.go (st_box 1 rfl rfl rfl rfl rfl rfl rfl) ?_
        refine Pstep.go (st_assign rfl rfl) ?_
        refine o_nil ?_
        refine a_seq ?_
        refine a_seq ?_
        refine a_region ?_
        refine Pstep.go (st_loadPS rfl rfl rw25 rfl rfl rfl) ?_
        refine Pstep.go (st_callP (hs) rfl rfl) ?_
        refine Pstep.go (st_not rfl rfl) ?_
        refine Pstep.go (st_move rfl rfl) ?_
        refine o_setF 13 rfl (rfl) ?_
        refine o_run rfl rfl rfl ?_
        refine Pstep.go (st_move rfl rfl) ?_
        refine o_run rfl rfl rfl ?_
        refine Pstep.go (st_lenMap rfl Tryz.underlying26 rfl) ?_
        refine o_run rfl rfl rfl ?_
        refine Pstep.go (st_gtr rfl rfl rfl) ?_
        refine Pstep.go (st_pickF rfl rfl rfl rfl) ?_
        refine o_nil ?_
        refine a_false rfl ((decide_eq_false (by omega))) ?_
        refine a_skip ?_
        refine a_seq ?_
        refine a_region ?_
        refine Pstep.go (st_loadPS rfl rfl rw25 rfl rfl rfl) ?_
        refine Pstep.go (st_callP (c1) rfl rfl) ?_
        refine Pstep.go (st_move rfl rfl) ?_
        refine Pstep.go (st_callP (c2) rfl rfl) ?_
        refine Pstep.go (st_move rfl rfl) ?_
        refine Pstep.go (st_extractD rfl rfl rfl) ?_
        refine Pstep.go (st_extractD rfl rfl rfl) ?_
        refine Pstep.go (st_assign rfl rfl) ?_
        refine Pstep.go (st_assign rfl rfl) ?_
        refine o_nil ?_
        refine a_seq ?_
        refine a_region ?_
        refine Pstep.go (st_loadPS rfl rfl rw25 rfl rfl rfl) ?_
        refine Pstep.go (st_callP (c1) rfl rfl) ?_
        refine Pstep.go (st_move rfl rfl) ?_
        refine Pstep.go (st_callP (c3) rfl rfl) ?_
        refine Pstep.go (st_move rfl rfl) ?_
        refine Pstep.go (st_extractD rfl rfl rfl) ?_
        refine Pstep.go (st_extractD rfl rfl rfl) ?_
        refine Pstep.go (st_assign rfl rfl) ?_
        refine Pstep.go (st_assign rfl rfl) ?_
        refine o_nil ?_
        refine a_seq ?_
        refine a_region ?_
        refine Pstep.go (st_loadPS rfl rfl rw25 rfl rfl rfl) ?_
        refine Pstep.go (st_move rfl rfl) ?_
        refine Pstep.go (st_callP (c4) rfl rfl) ?_
        refine Pstep.go (st_assign rfl rfl) ?_
        refine o_nil ?_
        refine a_seq ?_
        refine a_seq ?_
        refine a_region ?_
        refine Pstep.go (st_move rfl rfl) ?_
        refine Pstep.go (st_move rfl rfl) ?_
        refine Pstep.go (st_neq rfl rfl rfl) ?_
        refine Pstep.go (st_move rfl rfl) ?_
        refine o_setF 39 rfl ((by simp)) ?_
        refine o_run rfl rfl rfl ?_
        refine Pstep.go (st_move rfl rfl) ?_
        refine o_run rfl rfl rfl ?_
        refine Pstep.go (st_move rfl rfl) ?_
        refine o_run rfl rfl rfl ?_
        refine Pstep.go (st_neq rfl rfl rfl) ?_
        refine Pstep.go (st_pickF rfl rfl rfl rfl) ?_
        refine o_nil ?_
        refine a_false rfl ((by simp)) ?_
        refine a_skip ?_
        refine a_seq ?_
        refine a_seq ?_
        refine a_region ?_
        refine Pstep.go (st_move rfl rfl) ?_
        refine Pstep.go (st_neq rfl rfl rfl) ?_
        refine o_nil ?_
        refine a_true rfl ((decide_eq_true h0)) ?_
        refine a_seq ?_
        refine a_region ?_
        refine Pstep.go (st_callP (hk) rfl rfl) ?_
        refine Pstep.go (st_move rfl rfl) ?_
        refine o_setT 47 rfl (rfl) ?_
        refine o_run rfl rfl rfl ?_
        refine Pstep.go (st_move rfl rfl) ?_
        refine o_run rfl rfl rfl ?_
        refine Pstep.go (st_lenD rfl rfl Tryz.underlying26 rfl) ?_
        refine o_run rfl rfl rfl ?_
        refine Pstep.go (st_move rfl rfl) ?_
        refine o_run rfl rfl rfl ?_
        refine Pstep.go (st_lenD rfl rfl Tryz.underlying26 rfl) ?_
        refine o_run rfl rfl rfl ?_
        refine Pstep.go (st_add rfl rfl (IntWalk.i64_in _ (by decide)) rfl) ?_
        refine o_run rfl rfl rfl ?_
        refine Pstep.go (st_eql rfl rfl rfl) ?_
        refine Pstep.go (st_pickT rfl rfl rfl rfl) ?_
        refine Pstep.go (st_assign rfl rfl) ?_
        refine o_nil ?_
        refine a_ret ?_
        exact ⟨_, [], [], res_of rfl, rfl, rfl, rfl, rfl⟩
    · have hll : ¬ l.length ≤ 20 := hl
      refine a_enter Tryz.func7 rfl rfl Tryz.ntmps7 rfl rfl rfl fun F hF => ?_
      refine a_seq ?_
      refine a_region ?_
      refine Estep.go (st_box 1 rfl rfl rfl rfl rfl rfl rfl) ?_
      refine Pstep.go (st_assign rfl rfl) ?_
      refine o_nil ?_
      refine a_seq ?_
      refine a_seq ?_
      refine a_region ?_
      refine Pstep.go (st_loadPS rfl rfl rw25 rfl rfl rfl) ?_
      refine Pstep.go (st_callP (hs) rfl rfl) ?_
      refine Pstep.go (st_not rfl rfl) ?_
      refine Pstep.go (st_move rfl rfl) ?_
      refine o_setF 13 rfl (rfl) ?_
      refine o_run rfl rfl rfl ?_
      refine Pstep.go (st_move rfl rfl) ?_
      refine o_run rfl rfl rfl ?_
      refine Pstep.go (st_lenMap rfl Tryz.underlying26 rfl) ?_
      refine o_run rfl rfl rfl ?_
      refine Pstep.go (st_gtr rfl rfl rfl) ?_
      refine Pstep.go (st_pickF rfl rfl rfl rfl) ?_
      refine o_nil ?_
      refine a_true rfl ((decide_eq_true (by omega))) ?_
      refine a_seq ?_
      refine a_region ?_
      refine Pstep.go (st_callP (hk) rfl rfl) ?_
      refine Pstep.go (st_assign rfl rfl) ?_
      refine o_nil ?_
      refine a_ret ?_
      exact ⟨_, [], [], res_of rfl, rfl, rfl, rfl, rfl⟩
  · rw [decide_eq_false hf] at hs
    refine a_enter Tryz.func7 rfl rfl Tryz.ntmps7 rfl rfl rfl fun F hF => ?_
    refine a_seq ?_
    refine a_region ?_
    refine Estep.go (st_box 1 rfl rfl rfl rfl rfl rfl rfl) ?_
    refine Pstep.go (st_assign rfl rfl) ?_
    refine o_nil ?_
    refine a_seq ?_
    refine a_seq ?_
    refine a_region ?_
    refine Pstep.go (st_loadPS rfl rfl rw25 rfl rfl rfl) ?_
    refine Pstep.go (st_callP (hs) rfl rfl) ?_
    refine Pstep.go (st_not rfl rfl) ?_
    refine Pstep.go (st_move rfl rfl) ?_
    refine o_setT 13 rfl (rfl) ?_
    refine o_pass rfl rfl rfl rfl ?_
    refine o_pass rfl rfl rfl rfl ?_
    refine o_pass rfl rfl rfl rfl ?_
    refine Pstep.go (st_pickT rfl rfl rfl rfl) ?_
    refine o_nil ?_
    refine a_true rfl rfl ?_
    refine a_seq ?_
    refine a_region ?_
    refine Pstep.go (st_callP (hk) rfl rfl) ?_
    refine Pstep.go (st_assign rfl rfl) ?_
    refine o_nil ?_
    refine a_ret ?_
    exact ⟨_, [], [], res_of rfl, rfl, rfl, rfl, rfl⟩
end Go.Proofs.YtnamabifclidmaaGreat
/- Layer 28: how the laws' arguments are opened. -/
namespace Go.Proofs.YtnamabifclidmaaGreat
open Go.ChangeShapes Go.WideShapes Go.ChangeAt Go.RowKit

section
variable {H : Type} {enc : TypeId × Value → H} {w : World}
abbrev tt {α : Type} : α → Prop := fun _ => True
theorem oI : OpenT enc Tryz.prog w 3 1 intD tt := (openI64 Tryz.underlying3).asQ id (fun _ _ => rfl) (fun _ _ => trivial)
theorem oJ : OpenT enc Tryz.prog w 2 1 intD tt := (openI64 Tryz.underlying2).asQ id (fun _ _ => rfl) (fun _ _ => trivial)
theorem oS : OpenT enc Tryz.prog w 9 1 strD tt := (openStrL Tryz.underlying9).asQ id (fun _ _ => rfl) (fun _ _ => trivial)
theorem oIs : OpenT enc Tryz.prog w 26 1 (fun l : List Int => .sl none (l.map intD)) tt := (openSl Tryz.underlying26 (by kernel_rfl) (by omega) (b := 8) (by kernel_rfl) oI).asQ id (fun _ _ => rfl) (fun _ _ => trivial)
theorem oAcc : OpenT enc Tryz.prog w 50 3 accD tt :=
  (openSt Tryz.underlying50 (by kernel_rfl) (openFc rfl (by kernel_rfl) oS (openFc rfl (by kernel_rfl) oI (openFc rfl (by kernel_rfl) oS openF0)))).asQ (fun a => (⟨a.1, a.2.1, a.2.2.1⟩ : Acc)) (fun _ _ => rfl) (fun _ _ => trivial)
theorem oPost : OpenT enc Tryz.prog w 144 4 postD tt :=
  (openSt Tryz.underlying144 (by kernel_rfl) (openFc rfl (by kernel_rfl) oAcc (openFc rfl (by kernel_rfl) oJ openF0))).asQ (fun a => (⟨a.1, a.2.1⟩ : Post)) (fun _ _ => rfl) (fun _ _ => trivial)
theorem oPay : OpenT enc Tryz.prog w 147 3 payD tt :=
  (openSt Tryz.underlying147 (by kernel_rfl) (openFc rfl (by kernel_rfl) oS (openFc rfl (by kernel_rfl) oS (openFc rfl (by kernel_rfl) oJ openF0)))).asQ (fun a => (⟨a.1, a.2.1, a.2.2.1⟩ : Pay)) (fun _ _ => rfl) (fun _ _ => trivial)
theorem oRsc : OpenT enc Tryz.prog w 52 6 rscD tt :=
  (openSt Tryz.underlying52 (by kernel_rfl) (openFc rfl (by kernel_rfl) oI (openFc rfl (by kernel_rfl) oAcc (openFc rfl (by kernel_rfl) oS (openFc rfl (by kernel_rfl) oS openF0))))).asQ (fun a => (⟨a.1, a.2.1, a.2.2.1, a.2.2.2.1⟩ : Rsc)) (fun _ _ => rfl) (fun _ _ => trivial)
theorem oItm : OpenT enc Tryz.prog w 80 6 itmD tt :=
  (openSt Tryz.underlying80 (by kernel_rfl) (openFc rfl (by kernel_rfl) oI (openFc rfl (by kernel_rfl) oI (openFc rfl (by kernel_rfl) oI
    (openFc rfl (by kernel_rfl) (openSl Tryz.underlying77 (by kernel_rfl) (by omega) (b := 48) (by kernel_rfl) oPost)
    (openFc rfl (by kernel_rfl) (openSl Tryz.underlying78 (by kernel_rfl) (by omega) (b := 40) (by kernel_rfl) oPay) (openFc rfl (by kernel_rfl) oIs openF0))))))).asQ
    (fun a => (⟨a.1, a.2.1, a.2.2.1, a.2.2.2.1, a.2.2.2.2.1, a.2.2.2.2.2.1⟩ : Itm)) (fun _ _ => rfl) (fun _ _ => trivial)
theorem oRoo : OpenT enc Tryz.prog w 104 7 rooD tt :=
  (openSt Tryz.underlying104 (by kernel_rfl) (openFc rfl (by kernel_rfl) oRsc (openFc rfl (by kernel_rfl) oJ openF0))).asQ (fun a => (⟨a.1, a.2.1⟩ : Roo)) (fun _ _ => rfl) (fun _ _ => trivial)
theorem oPrb : OpenT enc Tryz.prog w 25 2 prbD tt :=
  (openSt Tryz.underlying25 (by kernel_rfl) (openFc rfl (by kernel_rfl) (openSl Tryz.underlying22 (by kernel_rfl) (by omega) (b := 88) (by kernel_rfl) oRoo) (openFc rfl (by kernel_rfl) (openSl Tryz.underlying23 (by kernel_rfl) (by omega) (b := 96) (by kernel_rfl) oItm) openF0))).asQ
    (fun a => (⟨a.1, a.2.1⟩ : Prb)) (fun _ _ => rfl) (fun _ _ => trivial)
end
end Go.Proofs.YtnamabifclidmaaGreat
/- 'girolaw29.FeasibleClosure': for every input the law returns true, and each argument reads behind the call as it read before. No condition. -/
namespace Go.Proofs.YtnamabifclidmaaGreat
open Go.ChangeShapes Go.WideShapes Go.ChangeAt Go.RowKit

set_option maxRecDepth 100000 in
theorem feasibleClosure_lifted (os : Os) (started : os.Started) (H : Type) (enc : TypeId × Value → H) :
    ReturnsInHanded {} Tryz.checked os 7 .any (Rows.feasibleClosureSpec.pre6 enc Tryz.prog Tryz.f7 Rows.feasibleClosureRow.domain false) (Rows.feasibleClosureSpec.post enc Tryz.prog Tryz.f7 false true false false) := by
  refine returnsInHanded_of_change_sized (C := Tryz.checked) Tryz.own started (by kernel_rfl) Tryz.func7
    (ChangeSpec.witness6 (enc := enc) (C := Tryz.checked) false ⟨#[], #[.agg #[.slice none 0 0, .slice none 0 0], .slice none 0 0], []⟩ 8 (by kernel_rfl) (by kernel_rfl) (by kernel_rfl) (by kernel_rfl)) ?_
  intro W base args ds gs before hval0 hW _ hwt _
  have hW' := hW
  obtain ⟨p, q, hA0, hV, rfl, _, _⟩ := hW
  have hlt : ∀ x ∈ p ++ q, x.block < W.heap.size := fun x hx => hW'.lt x hx
  have hA : DataW.TrodAll enc Tryz.prog W 0 (fun _ => true) true Tryz.f7.params.toList args.toList ds p := hA0
  rw [Tryz.params7] at hA
  obtain ⟨v0, v1, d0, d1, p0, p1, rfl, rfl, rfl, h0, h1⟩ := trodAll_two hA
  obtain ⟨rfl, rfl⟩ := trodVars_none hV
  have hwz : ∀ n ∈ DataW.weightsEach Tryz.prog ([25, 26] : List TypeId) ([d0, d1]), n ≤ reachBytes := fun n hn => of_decide_eq_true (List.all_eq_true.1 hwt n (by rw [Tryz.params7]; exact hn))
  have hval : ∀ (j : Nat) t v, Tryz.f7.params[j]? = some t → (#[v0, v1] : Array Value)[j]? = some v → Value.okWide Tryz.prog W .any base t v := hval0
  rw [Tryz.params7] at hval
  obtain ⟨n0, g0⟩ := h0
  obtain ⟨cs0, rfl, _⟩ := okWide_struct Tryz.underlying25 (hval 0 25 v0 rfl rfl)
  obtain ⟨a0, q0, _, r0⟩ := (oPrb) _ _ _ g0 (fun x hx => hlt x (by simp [hx])) (fun n hn => hwz n (DataW.weights_mem_each (j := 0) (t := 25) rfl rfl n hn))
  obtain ⟨n1, g1⟩ := h1
  have hv1 : v1.oneCell' = true := by obtain ⟨_, _, _, e⟩ := okWide_slice Tryz.underlying26 (hval 1 26 v1 rfl rfl); rw [e]; rfl
  obtain ⟨a1, q1, _, r1⟩ := (openSl Tryz.underlying26 (by kernel_rfl) (by omega) (b := 8) (by kernel_rfl) (openInt Tryz.underlying3)) _ _ _ g1 (fun x hx => hlt x (by simp [hx])) (fun n hn => hwz n (DataW.weights_mem_each (j := 1) (t := 26) rfl rfl n hn))
  refine (law_calls (lawF4_p a0 a1) (vs := [.agg cs0, v1]) rfl (fun i a v ha hv => ?_)).mono fun e W' ⟨he, hb⟩ => ?_
  · rcases i with _ | _ | i
    · simp at ha hv; subst ha hv; exact RepC.argS rfl r0
    · simp at ha hv; subst ha hv; exact RepC.arg1 rfl rfl hv1 r1
    · simp at ha
  subst he
  exact ⟨_, rfl, law_post (tb := 4) Tryz.laidOut (by kernel_rfl) rfl rfl Tryz.underlying4 hW' ⟨rfl, rfl, rfl⟩ hb⟩

theorem feasibleClosure_holds : Rows.FeasibleClosureSaid :=
  OpenClaim.holds_of_wide 7 Tryz.f7 rfl rfl rfl rfl rfl rfl rfl ⟨rfl, rfl, rfl, rfl, rfl⟩ rfl rfl rfl rfl rfl (by kernel_rfl) Tryz.func7 (by kernel_rfl)
    (of_decide_eq_true (by kernel_rfl)) (by unfold Func.isWrapper; first | (rw [if_pos (by decide +kernel)]; kernel_rfl) | (rw [if_neg (by decide +kernel)]; exact ⟨rfl, rfl⟩))
    (fun os started H enc _ => feasibleClosure_lifted os started H enc)
#print axioms feasibleClosure_holds

end Go.Proofs.YtnamabifclidmaaGreat
