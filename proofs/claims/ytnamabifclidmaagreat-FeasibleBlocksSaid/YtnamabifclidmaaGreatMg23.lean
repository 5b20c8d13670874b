/- Proved here: feasibleBlocks_holds, the given statement Rows.FeasibleBlocksSaid: the law girolaw29.FeasibleBlocks returns true and does not panic, at every input that the statement speaks of; no condition beyond the statement. -/
/- Layer 29: the example of the chapter, walked. -/
import Derived.Test.YtnamabifclidmaaGreatMg22
namespace Go.Proofs.YtnamabifclidmaaGreat
open Go.RowKit

set_option maxRecDepth 100000 in
theorem known29_p : PCalls Tryz.prog 14 [] (.raw (.bool true)) := by
  have y1 := pay29_p 1 1 5 [65] [66] (by decide) (by decide)
  have y2 := pay29_p 2 2 5 [66] [65] (by decide) (by decide)
  have y3 := pay29_p 3 3 1 [65] [66] (by decide) (by decide)
  refine a_enter Tryz.func14 rfl rfl Tryz.ntmps14 rfl rfl rfl fun F hF => ?_
  refine a_seq ?_
  refine a_region ?_
  refine Pstep.go (st_assign rfl rfl) ?_
  refine o_nil ?_
  refine a_seq ?_
  refine a_region ?_
  refine Pstep.go (st_build zl45 pl45 rfl rfl rfl) ?_
  refine Pstep.go (st_build zl47 pl47 rfl rfl rfl) ?_
  refine Pstep.go (st_build zl45 pl45 rfl rfl rfl) ?_
  refine Pstep.go (st_build zl47 pl47 rfl rfl rfl) ?_
  refine Estep.go (st_alloc 1 zl47 rfl rfl rfl rfl) ?_
  refine Estep.go (st_alloc 2 zl47 rfl rfl rfl rfl) ?_
  refine Estep.go (st_storeP rfl rfl rfl rfl rfl rfl rfl sz47) ?_
  refine Estep.go (st_storeP rfl rfl rfl rfl rfl rfl rfl sz47) ?_
  refine o_nil ?_
  refine a_seq ?_
  refine a_drawn [[], [0], [], [2], [0, 1, 2, 3], [], [5], [5, 6], [0, 1, 2, 3, 4, 5, 6, 7], [], [0, 1, 2, 3, 4, 5, 6, 7, 8, 9]] mixed rfl ?_
  refine dws ?_
  refine d_pure [1] [1] rfl rfl (fun _ => gp_none (st_loadPS rfl rfl rw47 rfl rfl rfl)) ?_
  refine d_pure [19] [] rfl rfl (fun _ => gp_none (st_build zl70 pl70 rfl rfl rfl)) ?_
  refine d_pure [2] [2] rfl rfl (fun _ => gp_none (st_loadPS rfl rfl rw47 rfl rfl rfl)) ?_
  refine d_pure [21] [] rfl rfl (fun _ => gp_none (st_build zl70 pl70 rfl rfl rfl)) ?_
  refine d_eff [20, 22] [10] [(23, _)] rfl rfl (fun _ => ge_none (st_buildSlice 10 sl32 rfl rfl rfl rfl rfl rfl rfl rfl)) (.inr ⟨23, _, rfl, rfl, rfl, rfl, rfl⟩) rfl rfl rfl rfl rfl ?_
  refine d_pure [] [] rfl rfl (fun _ => gp_none (st_callP (y1) rfl rfl)) ?_
  refine d_pure [] [] rfl rfl (fun _ => gp_none (st_callP (y2) rfl rfl)) ?_
  refine d_eff [24, 25] [11] [(26, _)] rfl rfl (fun _ => ge_none (st_buildSlice 11 sl33 rfl rfl rfl rfl rfl rfl rfl rfl)) (.inr ⟨26, _, rfl, rfl, rfl, rfl, rfl⟩) rfl rfl rfl rfl rfl ?_
  refine d_pure [23, 26] [] rfl rfl (fun _ => gp_none (st_build zl35 pl35 rfl rfl rfl)) ?_
  refine d_eff [] [5] [(3, _)] rfl rfl (fun _ => ge_none (st_alloc 5 zl35 rfl rfl rfl rfl)) (.inr ⟨3, _, rfl, rfl, rfl, rfl, rfl⟩) rfl rfl rfl rfl rfl ?_
  refine dwc 10 rfl rfl rfl ?_
  refine dw1 11 rfl rfl ?_
  refine Estep.go (st_storeP rfl rfl rfl rfl rfl rfl rfl sz35) ?_
  refine o_nil ⟨rfl, ?_⟩
  refine dwe ?_
  refine a_seq ?_
  refine a_freezeC (ys := rosK.map rooD) 5 0 0 10 rfl rfl rfl (by decide) rfl rfl rfl rfl rfl rfl rfl ?_
  refine a_region ?_
  refine Pstep.go (st_loadPS rfl rfl rw35 rfl rfl rfl) ?_
  refine Pstep.go (st_callPB [11] kn_cnt (by exact ⟨.inr ⟨_, _, rfl, snap_prb pK2 rfl rfl rfl, rfl⟩, trivial⟩) rfl rfl) ?_
  refine Pstep.go (st_move rfl rfl) ?_
  refine Pstep.go (st_extractD rfl rfl rfl) ?_
  refine Pstep.go (st_extractD rfl rfl rfl) ?_
  refine Pstep.go (st_extractD rfl rfl rfl) ?_
  refine Pstep.go (st_assign rfl rfl) ?_
  refine Pstep.go (st_assign rfl rfl) ?_
  refine Pstep.go (st_assign rfl rfl) ?_
  refine o_nil ?_
  refine a_seq ?_
  refine a_region ?_
  refine Pstep.go (st_loadPS rfl rfl rw35 rfl rfl rfl) ?_
  refine Estep.go (st_buildSlice 12 sl26 rfl rfl rfl rfl rfl rfl rfl rfl) ?_
  refine o_freezeM (emb := intD) 36 12 [2, 1] rfl rfl rfl rfl rfl rfl rfl ?_
  refine Pstep.go (st_callPB [11] kn_f21 (by exact ⟨.inr ⟨_, _, rfl, snap_prb pK2 rfl rfl rfl, rfl⟩, .inl rfl, trivial⟩) rfl rfl) ?_
  refine Pstep.go (st_move rfl rfl) ?_
  refine Pstep.go (st_extractD rfl rfl rfl) ?_
  refine Pstep.go (st_extractD rfl rfl rfl) ?_
  refine Pstep.go (st_assign rfl rfl) ?_
  refine Pstep.go (st_assign rfl rfl) ?_
  refine o_nil ?_
  refine a_seq ?_
  refine a_region ?_
  refine Pstep.go (st_loadPS rfl rfl rw35 rfl rfl rfl) ?_
  refine Estep.go (st_buildSlice 13 sl26 rfl rfl rfl rfl rfl rfl rfl rfl) ?_
  refine o_freezeM (emb := intD) 42 13 [1] rfl rfl rfl rfl rfl rfl rfl ?_
  refine Pstep.go (st_callPB [11] kn_f1 (by exact ⟨.inr ⟨_, _, rfl, snap_prb pK2 rfl rfl rfl, rfl⟩, .inl rfl, trivial⟩) rfl rfl) ?_
  refine Pstep.go (st_move rfl rfl) ?_
  refine Pstep.go (st_extractD rfl rfl rfl) ?_
  refine Pstep.go (st_extractD rfl rfl rfl) ?_
  refine Pstep.go (st_assign rfl rfl) ?_
  refine Pstep.go (st_assign rfl rfl) ?_
  refine o_nil ?_
  refine a_seq ?_
  refine a_drawn [[], [0], [], [2], [0, 1, 2, 3], [0, 1, 2, 3, 4], [0, 1, 2, 3, 4, 5]] mixed rfl ?_
  refine dws ?_
  refine d_pure [3] [] rfl rfl (fun _ => gp_none (st_fieldP rfl fi35_1 rfl rfl rfl)) ?_
  refine d_pure [46] [5, 11] rfl rfl (fun _ => gp_none (st_loadP rfl rfl rfl on33 rfl)) ?_
  refine d_pure [] [] rfl rfl (fun _ => gp_none (st_callP (y3) rfl rfl)) ?_
  refine d_eff [48] [14] [(49, _)] rfl rfl (fun _ => ge_none (st_buildSlice 14 sl33 rfl rfl rfl rfl rfl rfl rfl rfl)) (.inr ⟨49, _, rfl, rfl, rfl, rfl, rfl⟩) rfl rfl rfl rfl rfl ?_
  refine dwc 4 rfl rfl rfl ?_
  refine dw1 5 rfl rfl ?_
  refine Estep.go (st_appM (itsK) ([itK3]) rfl rfl rfl rfl rfl rfl rfl rfl sl33 (by decide) rfl rfl rfl rfl) ?_
  refine o_nil ⟨rfl, ?_⟩
  refine dw1 6 rfl rfl ?_
  refine Pstep.go (st_fieldP rfl fi35_1 rfl rfl rfl) ?_
  refine o_nil ⟨rfl, ?_⟩
  refine dw1 7 rfl rfl ?_
  refine Estep.go (st_storeP rfl rfl rfl rfl rfl rfl rfl sz33) ?_
  refine o_nil ⟨rfl, ?_⟩
  refine dwe ?_
  refine a_seq ?_
  refine a_region ?_
  refine Pstep.go (st_loadPS rfl rfl rw35 rfl rfl rfl) ?_
  refine Estep.go (st_buildSlice 15 sl26 rfl rfl rfl rfl rfl rfl rfl rfl) ?_
  refine o_freezeM (emb := intD) 54 15 [3] rfl rfl rfl rfl rfl rfl rfl ?_
  refine Pstep.go (st_callPB [11] kn_a3 (by exact ⟨.inr ⟨_, _, rfl, snap_prb pK3 rfl rfl rfl, rfl⟩, .inl rfl, trivial⟩) rfl rfl) ?_
  refine Pstep.go (st_move rfl rfl) ?_
  refine Pstep.go (st_extractD rfl rfl rfl) ?_
  refine Pstep.go (st_extractD rfl rfl rfl) ?_
  refine Pstep.go (st_assign rfl rfl) ?_
  refine Pstep.go (st_assign rfl rfl) ?_
  refine o_nil ?_
  refine a_seq ?_
  refine a_freezeC (ys := (itsK ++ [itK3]).map itmD) 5 0 1 11 rfl rfl rfl (by decide) rfl rfl rfl rfl rfl rfl rfl ?_
  refine a_region ?_
  refine Pstep.go (st_loadPS rfl rfl rw35 rfl rfl rfl) ?_
  refine Estep.go (st_buildSlice 16 sl26 rfl rfl rfl rfl rfl rfl rfl rfl) ?_
  refine o_freezeM (emb := intD) 60 16 [1, 2, 3] rfl rfl rfl rfl rfl rfl rfl ?_
  refine Pstep.go (st_callP (kn_v) rfl rfl) ?_
  refine Pstep.go (st_move rfl rfl) ?_
  refine Pstep.go (st_extractD rfl rfl rfl) ?_
  refine Pstep.go (st_extractD rfl rfl rfl) ?_
  refine Pstep.go (st_assign rfl rfl) ?_
  refine Pstep.go (st_assign rfl rfl) ?_
  refine o_nil ?_
  refine a_seq ?_
  refine a_drawn [[], [0], [0, 1], [0, 1, 2], [0, 1, 2, 3], [0, 1, 2, 3, 4], [0, 1, 2, 3, 4, 5], [0, 1, 2, 3, 4, 5, 6], [0, 1, 2, 3, 4, 5, 6, 7], [0, 1, 2, 3, 4, 5, 6, 7, 8], [0, 1, 2, 3, 4, 5, 6, 7, 8, 9], [0, 1, 2, 3, 4, 5, 6, 7, 8, 9, 10], [0, 1, 2, 3, 4, 5, 6, 7, 8, 9, 10, 11], [0, 1, 2, 3, 4, 5, 6, 7, 8, 9, 10, 11, 12], [0, 1, 2, 3, 4, 5, 6, 7, 8, 9, 10, 11, 12, 13], [0, 1, 2, 3, 4, 5, 6, 7, 8, 9, 10, 11, 12, 13, 14], [0, 1, 2, 3, 4, 5, 6, 7, 8, 9, 10, 11, 12, 13, 14, 15], [0, 1, 2, 3, 4, 5, 6, 7, 8, 9, 10, 11, 12, 13, 14, 15, 16], [0, 1, 2, 3, 4, 5, 6, 7, 8, 9, 10, 11, 12, 13, 14, 15, 16, 17], [0, 1, 2, 3, 4, 5, 6, 7, 8, 9, 10, 11, 12, 13, 14, 15, 16, 17, 18], [0, 1, 2, 3, 4, 5, 6, 7, 8, 9, 10, 11, 12, 13, 14, 15, 16, 17, 18, 19], [0, 1, 2, 3, 4, 5, 6, 7, 8, 9, 10, 11, 12, 13, 14, 15, 16, 17, 18, 19, 20], [0, 1, 2, 3, 4, 5, 6, 7, 8, 9, 10, 11, 12, 13, 14, 15, 16, 17, 18, 19, 20, 21], [0, 1, 2, 3, 4, 5, 6, 7, 8, 9, 10, 11, 12, 13, 14, 15, 16, 17, 18, 19, 20, 21, 22], [0, 1, 2, 3, 4, 5, 6, 7, 8, 9, 10, 11, 12, 13, 14, 15, 16, 17, 18, 19, 20, 21, 22, 23], [0, 1, 2, 3, 4, 5, 6, 7, 8, 9, 10, 11, 12, 13, 14, 15, 16, 17, 18, 19, 20, 21, 22, 23, 24], [0, 1, 2, 3, 4, 5, 6, 7, 8, 9, 10, 11, 12, 13, 14, 15, 16, 17, 18, 19, 20, 21, 22, 23, 24, 25], [0, 1, 2, 3, 4, 5, 6, 7, 8, 9, 10, 11, 12, 13, 14, 15, 16, 17, 18, 19, 20, 21, 22, 23, 24, 25, 26], [0, 1, 2, 3, 4, 5, 6, 7, 8, 9, 10, 11, 12, 13, 14, 15, 16, 17, 18, 19, 20, 21, 22, 23, 24, 25, 26, 27], [0, 1, 2, 3, 4, 5, 6, 7, 8, 9, 10, 11, 12, 13, 14, 15, 16, 17, 18, 19, 20, 21, 22, 23, 24, 25, 26, 27, 28], [0, 1, 2, 3, 4, 5, 6, 7, 8, 9, 10, 11, 12, 13, 14, 15, 16, 17, 18, 19, 20, 21, 22, 23, 24, 25, 26, 27, 28, 29], [0, 1, 2, 3, 4, 5, 6, 7, 8, 9, 10, 11, 12, 13, 14, 15, 16, 17, 18, 19, 20, 21, 22, 23, 24, 25, 26, 27, 28, 29, 30], [0, 1, 2, 3, 4, 5, 6, 7, 8, 9, 10, 11, 12, 13, 14, 15, 16, 17, 18, 19, 20, 21, 22, 23, 24, 25, 26, 27, 28, 29, 30, 31], [0, 1, 2, 3, 4, 5, 6, 7, 8, 9, 10, 11, 12, 13, 14, 15, 16, 17, 18, 19, 20, 21, 22, 23, 24, 25, 26, 27, 28, 29, 30, 31, 32], [0, 1, 2, 3, 4, 5, 6, 7, 8, 9, 10, 11, 12, 13, 14, 15, 16, 17, 18, 19, 20, 21, 22, 23, 24, 25, 26, 27, 28, 29, 30, 31, 32, 33], [0, 1, 2, 3, 4, 5, 6, 7, 8, 9, 10, 11, 12, 13, 14, 15, 16, 17, 18, 19, 20, 21, 22, 23, 24, 25, 26, 27, 28, 29, 30, 31, 32, 33, 34], [0, 1, 2, 3, 4, 5, 6, 7, 8, 9, 10, 11, 12, 13, 14, 15, 16, 17, 18, 19, 20, 21, 22, 23, 24, 25, 26, 27, 28, 29, 30, 31, 32, 33, 34, 35], [0, 1, 2, 3, 4, 5, 6, 7, 8, 9, 10, 11, 12, 13, 14, 15, 16, 17, 18, 19, 20, 21, 22, 23, 24, 25, 26, 27, 28, 29, 30, 31, 32, 33, 34, 35, 36], [0, 1, 2, 3, 4, 5, 6, 7, 8, 9, 10, 11, 12, 13, 14, 15, 16, 17, 18, 19, 20, 21, 22, 23, 24, 25, 26, 27, 28, 29, 30, 31, 32, 33, 34, 35, 36, 37], [0, 1, 2, 3, 4, 5, 6, 7, 8, 9, 10, 11, 12, 13, 14, 15, 16, 17, 18, 19, 20, 21, 22, 23, 24, 25, 26, 27, 28, 29, 30, 31, 32, 33, 34, 35, 36, 37, 38], [0, 1, 2, 3, 4, 5, 6, 7, 8, 9, 10, 11, 12, 13, 14, 15, 16, 17, 18, 19, 20, 21, 22, 23, 24, 25, 26, 27, 28, 29, 30, 31, 32, 33, 34, 35, 36, 37, 38, 39], [0, 1, 2, 3, 4, 5, 6, 7, 8, 9, 10, 11, 12, 13, 14, 15, 16, 17, 18, 19, 20, 21, 22, 23, 24, 25, 26, 27, 28, 29, 30, 31, 32, 33, 34, 35, 36, 37, 38, 39, 40], [0, 1, 2, 3, 4, 5, 6, 7, 8, 9, 10, 11, 12, 13, 14, 15, 16, 17, 18, 19, 20, 21, 22, 23, 24, 25, 26, 27, 28, 29, 30, 31, 32, 33, 34, 35, 36, 37, 38, 39, 40, 41], [0, 1, 2, 3, 4, 5, 6, 7, 8, 9, 10, 11, 12, 13, 14, 15, 16, 17, 18, 19, 20, 21, 22, 23, 24, 25, 26, 27, 28, 29, 30, 31, 32, 33, 34, 35, 36, 37, 38, 39, 40, 41, 42], [0, 1, 2, 3, 4, 5, 6, 7, 8, 9, 10, 11, 12, 13, 14, 15, 16, 17, 18, 19, 20, 21, 22, 23, 24, 25, 26, 27, 28, 29, 30, 31, 32, 33, 34, 35, 36, 37, 38, 39, 40, 41, 42, 43], [0, 1, 2, 3, 4, 5, 6, 7, 8, 9, 10, 11, 12, 13, 14, 15, 16, 17, 18, 19, 20, 21, 22, 23, 24, 25, 26, 27, 28, 29, 30, 31, 32, 33, 34, 35, 36, 37, 38, 39, 40, 41, 42, 43, 44], [0, 1, 2, 3, 4, 5, 6, 7, 8, 9, 10, 11, 12, 13, 14, 15, 16, 17, 18, 19, 20, 21, 22, 23, 24, 25, 26, 27, 28, 29, 30, 31, 32, 33, 34, 35, 36, 37, 38, 39, 40, 41, 42], [0, 1, 2, 3, 4, 5, 6, 7, 8, 9, 10, 11, 12, 13, 14, 15, 16, 17, 18, 19, 20, 21, 22, 23, 24, 25, 26, 27, 28, 29, 30, 31, 32, 33, 34, 35, 36, 37, 38, 39, 40, 41, 42, 46], [0, 1, 2, 3, 4, 5, 6, 7, 8, 9, 10, 11, 12, 13, 14, 15, 16, 17, 18, 19, 20, 21, 22, 23, 24, 25, 26, 27, 28, 29, 30, 31, 32, 33, 34, 35, 36, 37, 38, 39, 40, 41, 42, 43, 44, 45, 46, 47], [0, 1, 2, 3, 4, 5, 6, 7, 8, 9, 10, 11, 12, 13, 14, 15, 16, 17, 18, 19, 20, 21, 22, 23, 24, 25, 26, 27, 28, 29, 30, 31, 32, 33, 34, 35, 36, 37, 38, 39, 40, 41, 42, 43, 44, 45, 46, 47, 48], [0, 1, 2, 3, 4, 5, 6, 7, 8, 9, 10, 11, 12, 13, 14, 15, 16, 17, 18, 19, 20, 21, 22, 23, 24, 25, 26, 27, 28, 29, 30, 31, 32, 33, 34, 35, 36, 37, 38, 39, 40, 41, 42, 43, 44, 45, 46, 47, 48, 49]] mixed rfl ?_
  refine dw1 1 rfl rfl ?_
  refine Pstep.go (st_move rfl rfl) ?_
  refine o_nil ⟨rfl, ?_⟩
  refine dw1 2 rfl rfl ?_
  refine Pstep.go (st_eql rfl rfl rfl) ?_
  refine o_nil ⟨rfl, ?_⟩
  refine dw1 3 rfl rfl ?_
  refine Pstep.go (st_move rfl rfl) ?_
  refine o_setT 66 rfl (rfl) ?_
  refine o_nil ⟨rfl, ?_⟩
  refine dw1 4 rfl rfl ?_
  refine o_run rfl rfl rfl ?_
  refine Pstep.go (st_move rfl rfl) ?_
  refine o_nil ⟨rfl, ?_⟩
  refine dw1 5 rfl rfl ?_
  refine o_run rfl rfl rfl ?_
  refine Pstep.go (st_eql rfl rfl rfl) ?_
  refine o_nil ⟨rfl, ?_⟩
  refine dw1 6 rfl rfl ?_
  refine Pstep.go (st_pickT rfl rfl rfl rfl) ?_
  refine o_nil ⟨rfl, ?_⟩
  refine dw1 7 rfl rfl ?_
  refine Pstep.go (st_move rfl rfl) ?_
  refine o_setT 70 rfl (rfl) ?_
  refine o_nil ⟨rfl, ?_⟩
  refine dw1 8 rfl rfl ?_
  refine o_run rfl rfl rfl ?_
  refine Pstep.go (st_move rfl rfl) ?_
  refine o_nil ⟨rfl, ?_⟩
  refine dw1 9 rfl rfl ?_
  refine o_run rfl rfl rfl ?_
  refine Pstep.go (st_eql rfl rfl rfl) ?_
  refine o_nil ⟨rfl, ?_⟩
  refine dw1 10 rfl rfl ?_
  refine Pstep.go (st_pickT rfl rfl rfl rfl) ?_
  refine o_nil ⟨rfl, ?_⟩
  refine dw1 11 rfl rfl ?_
  refine Pstep.go (st_move rfl rfl) ?_
  refine o_setT 74 rfl (rfl) ?_
  refine o_nil ⟨rfl, ?_⟩
  refine dw1 12 rfl rfl ?_
  refine o_run rfl rfl rfl ?_
  refine Pstep.go (st_move rfl rfl) ?_
  refine o_nil ⟨rfl, ?_⟩
  refine dw1 13 rfl rfl ?_
  refine Pstep.go (st_pickT rfl rfl rfl rfl) ?_
  refine o_nil ⟨rfl, ?_⟩
  refine dw1 14 rfl rfl ?_
  refine Pstep.go (st_move rfl rfl) ?_
  refine o_setT 77 rfl (rfl) ?_
  refine o_nil ⟨rfl, ?_⟩
  refine dw1 15 rfl rfl ?_
  refine o_run rfl rfl rfl ?_
  refine Pstep.go (st_move rfl rfl) ?_
  refine o_nil ⟨rfl, ?_⟩
  refine dw1 16 rfl rfl ?_
  refine o_run rfl rfl rfl ?_
  refine Pstep.go (st_eql rfl rfl rfl) ?_
  refine o_nil ⟨rfl, ?_⟩
  refine dw1 17 rfl rfl ?_
  refine Pstep.go (st_pickT rfl rfl rfl rfl) ?_
  refine o_nil ⟨rfl, ?_⟩
  refine dw1 18 rfl rfl ?_
  refine Pstep.go (st_move rfl rfl) ?_
  refine o_setT 81 rfl (rfl) ?_
  refine o_nil ⟨rfl, ?_⟩
  refine dw1 19 rfl rfl ?_
  refine o_run rfl rfl rfl ?_
  refine Pstep.go (st_move rfl rfl) ?_
  refine o_nil ⟨rfl, ?_⟩
  refine dw1 20 rfl rfl ?_
  refine o_run rfl rfl rfl ?_
  refine Pstep.go (st_not rfl rfl) ?_
  refine o_nil ⟨rfl, ?_⟩
  refine dw1 21 rfl rfl ?_
  refine Pstep.go (st_pickT rfl rfl rfl rfl) ?_
  refine o_nil ⟨rfl, ?_⟩
  refine dw1 22 rfl rfl ?_
  refine Pstep.go (st_move rfl rfl) ?_
  refine o_setT 85 rfl (rfl) ?_
  refine o_nil ⟨rfl, ?_⟩
  refine dw1 23 rfl rfl ?_
  refine o_run rfl rfl rfl ?_
  refine Pstep.go (st_move rfl rfl) ?_
  refine o_nil ⟨rfl, ?_⟩
  refine dw1 24 rfl rfl ?_
  refine o_run rfl rfl rfl ?_
  refine Pstep.go (st_eql rfl rfl rfl) ?_
  refine o_nil ⟨rfl, ?_⟩
  refine dw1 25 rfl rfl ?_
  refine Pstep.go (st_pickT rfl rfl rfl rfl) ?_
  refine o_nil ⟨rfl, ?_⟩
  refine dw1 26 rfl rfl ?_
  refine Pstep.go (st_move rfl rfl) ?_
  refine o_setT 89 rfl (rfl) ?_
  refine o_nil ⟨rfl, ?_⟩
  refine dw1 27 rfl rfl ?_
  refine o_run rfl rfl rfl ?_
  refine Pstep.go (st_move rfl rfl) ?_
  refine o_nil ⟨rfl, ?_⟩
  refine dw1 28 rfl rfl ?_
  refine o_run rfl rfl rfl ?_
  refine Pstep.go (st_not rfl rfl) ?_
  refine o_nil ⟨rfl, ?_⟩
  refine dw1 29 rfl rfl ?_
  refine Pstep.go (st_pickT rfl rfl rfl rfl) ?_
  refine o_nil ⟨rfl, ?_⟩
  refine dw1 30 rfl rfl ?_
  refine Pstep.go (st_move rfl rfl) ?_
  refine o_setT 93 rfl (rfl) ?_
  refine o_nil ⟨rfl, ?_⟩
  refine dw1 31 rfl rfl ?_
  refine o_run rfl rfl rfl ?_
  refine Pstep.go (st_move rfl rfl) ?_
  refine o_nil ⟨rfl, ?_⟩
  refine dw1 32 rfl rfl ?_
  refine o_run rfl rfl rfl ?_
  refine Pstep.go (st_eql rfl rfl rfl) ?_
  refine o_nil ⟨rfl, ?_⟩
  refine dw1 33 rfl rfl ?_
  refine Pstep.go (st_pickT rfl rfl rfl rfl) ?_
  refine o_nil ⟨rfl, ?_⟩
  refine dw1 34 rfl rfl ?_
  refine Pstep.go (st_move rfl rfl) ?_
  refine o_setT 97 rfl (rfl) ?_
  refine o_nil ⟨rfl, ?_⟩
  refine dw1 35 rfl rfl ?_
  refine o_run rfl rfl rfl ?_
  refine Pstep.go (st_move rfl rfl) ?_
  refine o_nil ⟨rfl, ?_⟩
  refine dw1 36 rfl rfl ?_
  refine o_run rfl rfl rfl ?_
  refine Pstep.go (st_eql rfl rfl rfl) ?_
  refine o_nil ⟨rfl, ?_⟩
  refine dw1 37 rfl rfl ?_
  refine Pstep.go (st_pickT rfl rfl rfl rfl) ?_
  refine o_nil ⟨rfl, ?_⟩
  refine dw1 38 rfl rfl ?_
  refine Pstep.go (st_move rfl rfl) ?_
  refine o_setT 101 rfl (rfl) ?_
  refine o_nil ⟨rfl, ?_⟩
  refine dw1 39 rfl rfl ?_
  refine o_run rfl rfl rfl ?_
  refine Pstep.go (st_move rfl rfl) ?_
  refine o_nil ⟨rfl, ?_⟩
  refine dw1 40 rfl rfl ?_
  refine o_run rfl rfl rfl ?_
  refine Pstep.go (st_lenMap rfl Tryz.underlying56 rfl) ?_
  refine o_nil ⟨rfl, ?_⟩
  refine dw1 41 rfl rfl ?_
  refine o_run rfl rfl rfl ?_
  refine Pstep.go (st_eql rfl rfl rfl) ?_
  refine o_nil ⟨rfl, ?_⟩
  refine dw1 42 rfl rfl ?_
  refine Pstep.go (st_pickT rfl rfl rfl rfl) ?_
  refine o_nil ⟨rfl, ?_⟩
  refine dw1 43 rfl rfl ?_
  refine Pstep.go (st_move rfl rfl) ?_
  refine o_setT 106 rfl (rfl) ?_
  refine o_nil ⟨rfl, ?_⟩
  refine dws ?_
  refine d_pure [13, 106] [] rfl rfl (fun _ => gp_run rfl rfl rfl (st_move rfl rfl)) ?_
  refine d_pure [107, 106] [] rfl rfl (fun _ => gp_run rfl rfl rfl (st_indexD (0) rfl rfl (rfl) (rfl) Tryz.underlying56 rfl sz62 rfl)) ?_
  refine d_pure [108, 106] [] rfl rfl (fun _ => gp_run rfl rfl rfl (st_loadDS rfl rfl rw62 rfl)) ?_
  refine d_pure [1, 106] [1] rfl rfl (fun _ => gp_run rfl rfl rfl (st_loadPS rfl rfl rw47 rfl rfl rfl)) ?_
  refine d_pure [110, 106] [] rfl rfl (fun _ => gp_run rfl rfl rfl (st_build zl62 pl62 rfl rfl rfl)) ?_
  refine dwc 48 rfl rfl rfl ?_
  refine dw1 49 rfl rfl ?_
  refine o_run rfl rfl rfl ?_
  refine Pstep.go (st_eqlSt (la := rooC ⟨rcA, 1⟩) (lb := rooC ⟨rcA, 1⟩) (ds := rooT) (by kernel_rfl) (by kernel_rfl) (by kernel_rfl) rfl rfl rfl rfl (roo_plain _) (roo_plain _) (roo_eqC _ _) rfl) ?_
  refine o_nil ⟨rfl, ?_⟩
  refine dw1 50 rfl rfl ?_
  refine Pstep.go (st_pickT rfl rfl rfl rfl) ?_
  refine o_nil ⟨rfl, ?_⟩
  refine dw1 51 rfl rfl ?_
  refine Pstep.go (st_assign rfl rfl) ?_
  refine o_nil ⟨rfl, ?_⟩
  refine dwe ?_
  refine a_ret ?_
  exact ⟨_, [], [], res_of rfl, rfl, rfl, by simp, rfl⟩
end Go.Proofs.YtnamabifclidmaaGreat
/- Layer 29: the law of admissible and feasible sets. -/
namespace Go.Proofs.YtnamabifclidmaaGreat
open Go.RowKit

theorem sml_V {p : Prb} (h : Sml p) (hE : prbE p = 0) : PV p := ⟨hE, sml_B h, by have := h.1; omega, by have := h.2.1; omega, fun i hi => by have := h.2.2 i hi; omega⟩
end Go.Proofs.YtnamabifclidmaaGreat
/- Layer 29: the laws of the reasons why sets are not admissible, and of overdrawn resources. -/
namespace Go.Proofs.YtnamabifclidmaaGreat
open Go.RowKit

set_option maxRecDepth 100000 in
theorem lawF2_p (p : Prb) (l : List Int) : PCalls Tryz.prog 4 [.d (prbD p), .d (.sl none (l.map intD))] (.raw (.bool true)) := by
  have hk := known29_p
  have hs := small_p p
  by_cases hf : Sml p
  · rw [decide_eq_true hf] at hs
    have c1 := own_p p hf
    have g1 := hf.1
    have g2 := hf.2.1
    have g3 := hf.2.2
    by_cases hl : l.length ≤ 20
    · have c2 := blocksF_p p l (sml_B hf) (by omega) (by omega) (by omega)
      have c4 := check29_p p l (by omega) (by omega) (fun i hi => by have := g3 i hi; omega) (by omega)
      by_cases h0 : choE p l = 0
      · have c5 := blocks29_p p l (sml_V hf (choE_prb h0)) (by omega)
        rw [if_pos h0, h0] at c2
        rw [h0] at c4
        have hwl : (blks p (inL l)).length ≤ 1100000000 := by
          unfold blks
          have h5 := flat_len (f := blk1 p (inL l)) (n := 1100000) (l := ordI_ids p) (fun x _ => blk1_len (sml_B hf) (by omega) (by omega) (inL l) x)
          have h6 : (ordI_ids p).length ≤ 1000 := by unfold ordI_ids; rw [List.length_map]; exact Nat.le_trans (ordP_len p) (by omega)
          have h7 : (ordI_ids p).length * 1100000 ≤ 1000 * 1100000 := Nat.mul_le_mul_right _ h6
          omega
        obtain ⟨W, hW⟩ : ∃ W, blks p (inL l) = W := ⟨_, rfl⟩
        rw [hW] at c2 c5 hwl
        refine a_enter Tryz.func4 rfl rfl Tryz.ntmps4 rfl rfl rfl fun F hF => ?_
        refine a_seq ?_
        refine a_region ?_
        refine Estep.go (st_box 1 rfl rfl rfl rfl rfl rfl rfl) ?_
        refine Pstep.go (st_assign rfl rfl) ?_
        refine o_nil ?_
        refine a_seq ?_
        refine a_seq ?_
        refine a_region ?_
        refine Pstep.go (st_loadPS rfl rfl rw25 rfl rfl rfl) ?_
        refine Pstep.go (st_callP (hs) rfl rfl) ?_
        refine Pstep.go (st_not rfl rfl) ?_
        refine Pstep.go (st_move rfl rfl) ?_
        refine o_setF 13 rfl (rfl) ?_
        refine o_run rfl rfl rfl ?_
        refine Pstep.go (st_move rfl rfl) ?_
        refine o_run rfl rfl rfl ?_
        refine Pstep.go (st_lenMap rfl Tryz.underlying26 rfl) ?_
        refine o_run rfl rfl rfl ?_
        refine Pstep.go (st_gtr rfl rfl rfl) ?_
        refine Pstep.go (st_pickF rfl rfl rfl rfl) ?_
        refine o_nil ?_
        refine a_false rfl ((decide_eq_false (by omega))) ?_
        refine a_skip ?_
        refine a_seq ?_
        refine a_region ?_
        refine Pstep.go (st_loadPS rfl rfl rw25 rfl rfl rfl) ?_
        refine Pstep.go (st_callP (c1) rfl rfl) ?_
        refine Pstep.go (st_move rfl rfl) ?_
        refine Pstep.go (st_callP (c2) rfl rfl) ?_
        refine Pstep.go (st_move rfl rfl) ?_
        refine Pstep.go (st_extractD rfl rfl rfl) ?_
        refine Pstep.go (st_extractD rfl rfl rfl) ?_
        refine Pstep.go (st_assign rfl rfl) ?_
        refine Pstep.go (st_assign rfl rfl) ?_
        refine o_nil ?_
        refine a_seq ?_
        refine a_region ?_
        refine Pstep.go (st_loadPS rfl rfl rw25 rfl rfl rfl) ?_
        refine Pstep.go (st_move rfl rfl) ?_
        refine Pstep.go (st_callP (c4) rfl rfl) ?_
        refine Pstep.go (st_assign rfl rfl) ?_
        refine o_nil ?_
        refine a_seq ?_
        refine a_seq ?_
        refine a_region ?_
        refine Pstep.go (st_move rfl rfl) ?_
        refine Pstep.go (st_move rfl rfl) ?_
        refine Pstep.go (st_neq rfl rfl rfl) ?_
        refine o_nil ?_
        refine a_false rfl ((by simp)) ?_
        refine a_skip ?_
        refine a_seq ?_
        refine a_seq ?_
        refine a_region ?_
        refine Pstep.go (st_move rfl rfl) ?_
        refine Pstep.go (st_neq rfl rfl rfl) ?_
        refine o_nil ?_
        refine a_false rfl ((by simp)) ?_
        refine a_skip ?_
        refine a_seq ?_
        refine a_region ?_
        refine Pstep.go (st_loadPS rfl rfl rw25 rfl rfl rfl) ?_
        refine Pstep.go (st_move rfl rfl) ?_
        refine Pstep.go (st_callP (c5) rfl rfl) ?_
        refine Pstep.go (st_assign rfl rfl) ?_
        refine o_nil ?_
        refine a_seq ?_
        refine a_seq ?_
        refine a_region ?_
        refine Pstep.go (st_move rfl rfl) ?_
        refine Pstep.go (st_lenMap rfl Tryz.underlying39 rfl) ?_
        refine Pstep.go (st_move rfl rfl) ?_
        refine Pstep.go (st_lenMap rfl Tryz.underlying42 rfl) ?_
        refine Pstep.go (st_neq rfl rfl rfl) ?_
        refine o_nil ?_
        refine a_false rfl ((by simp)) ?_
        refine a_skip ?_
        refine a_seq ?_
        refine a_seq ?_
        refine a_region ?_
        refine Pstep.go (st_assign rfl rfl) ?_
        refine o_nil ?_
        refine a_block ?_
        refine a_loopP (α := Nat) (fun k => ⟨93, [(5, (.d (.sl none (W.map bkdD)))), (8, (.d (.sl none (W.map bkdD)))), (9, (.d (intD (k : Int))))], [(1, [prbB2 25 p])]⟩) (fun k => k ≤ W.length) (fun k => W.length - k) (0) (Nat.zero_le _) (lep_of hF [1] rfl rfl ⟨rfl, rfl, rfl, trivial⟩) ?_
        rintro k hk0
        refine a_seq ?_
        refine a_seq ?_
        refine a_region ?_
        refine Pstep.go (st_move rfl rfl) ?_
        refine Pstep.go (st_move rfl rfl) ?_
        refine Pstep.go (st_lenMap rfl Tryz.underlying39 rfl) ?_
        refine Pstep.go (st_lss rfl rfl rfl) ?_
        refine o_nil ?_
        refine a_if rfl (fun h51 => ?_) (fun h51 => ?_)
        · have hk1 : k < W.length := lt_cast h51
          refine a_skip ?_
          refine a_seq ?_
          refine a_block ?_
          refine a_seq ?_
          refine a_drawn [[], [], [0, 1], [0, 1, 2], [0, 1, 2, 3], [], [], [5, 6], [5, 6, 7], [5, 6, 7, 8], [0, 1, 2, 3, 4, 5, 6, 7, 8, 9], [0, 1, 2, 3, 4, 5, 6, 7, 8, 9, 10], [0, 1, 2, 3, 4, 5, 6, 7, 8, 9, 10, 11], [0, 1, 2, 3, 4, 5, 6, 7, 8, 9, 10, 11], [0, 1, 2, 3, 4, 5, 6, 7, 8, 9, 10, 11, 12, 13], [0, 1, 2, 3, 4, 5, 6, 7, 8, 9, 10, 11, 12, 13, 14], [0, 1, 2, 3, 4, 5, 6, 7, 8, 9, 10, 11, 12, 13, 14, 15], [0, 1, 2, 3, 4, 5, 6, 7, 8, 9, 10, 11], [0, 1, 2, 3, 4, 5, 6, 7, 8, 9, 10, 11], [0, 1, 2, 3, 4, 5, 6, 7, 8, 9, 10, 11, 17, 18], [0, 1, 2, 3, 4, 5, 6, 7, 8, 9, 10, 11, 17, 18, 19], [0, 1, 2, 3, 4, 5, 6, 7, 8, 9, 10, 11, 17, 18, 19, 20], [0, 1, 2, 3, 4, 5, 6, 7, 8, 9, 10, 11, 12, 13, 14, 15, 16, 17, 18, 19, 20, 21], [0, 1, 2, 3, 4, 5, 6, 7, 8, 9, 10, 11, 12, 13, 14, 15, 16, 17, 18, 19, 20, 21, 22], [0, 1, 2, 3, 4, 5, 6, 7, 8, 9, 10, 11, 12, 13, 14, 15, 16, 17, 18, 19, 20, 21, 22, 23], [0, 1, 2, 3, 4, 5, 6, 7, 8, 9, 10, 11, 12, 13, 14, 15, 16, 17, 18, 19, 20, 21, 22, 23, 24], [0, 1, 2, 3, 4, 5, 6, 7, 8, 9, 10, 11, 12, 13, 14, 15, 16, 17, 18, 19, 20, 21, 22, 23, 24], [0, 1, 2, 3, 4, 5, 6, 7, 8, 9, 10, 11, 12, 13, 14, 15, 16, 17, 18, 19, 20, 21, 22, 23, 24, 25, 26], [0, 1, 2, 3, 4, 5, 6, 7, 8, 9, 10, 11, 12, 13, 14, 15, 16, 17, 18, 19, 20, 21, 22, 23, 24, 25, 26, 27], [0, 1, 2, 3, 4, 5, 6, 7, 8, 9, 10, 11, 12, 13, 14, 15, 16, 17, 18, 19, 20, 21, 22, 23, 24, 25, 26, 27, 28], [0, 1, 2, 3, 4, 5, 6, 7, 8, 9, 10, 11, 12, 13, 14, 15, 16, 17, 18, 19, 20, 21, 22, 23, 24, 25, 26, 27, 28, 29], [0, 1, 2, 3, 4, 5, 6, 7, 8, 9, 10, 11, 12, 13, 14, 15, 16, 17, 18, 19, 20, 21, 22, 23, 24], [0, 1, 2, 3, 4, 5, 6, 7, 8, 9, 10, 11, 12, 13, 14, 15, 16, 17, 18, 19, 20, 21, 22, 23, 24], [0, 1, 2, 3, 4, 5, 6, 7, 8, 9, 10, 11, 12, 13, 14, 15, 16, 17, 18, 19, 20, 21, 22, 23, 24, 31, 32], [0, 1, 2, 3, 4, 5, 6, 7, 8, 9, 10, 11, 12, 13, 14, 15, 16, 17, 18, 19, 20, 21, 22, 23, 24, 31, 32, 33], [0, 1, 2, 3, 4, 5, 6, 7, 8, 9, 10, 11, 12, 13, 14, 15, 16, 17, 18, 19, 20, 21, 22, 23, 24, 31, 32, 33, 34], [0, 1, 2, 3, 4, 5, 6, 7, 8, 9, 10, 11, 12, 13, 14, 15, 16, 17, 18, 19, 20, 21, 22, 23, 24, 25, 26, 27, 28, 29, 30, 31, 32, 33, 34, 35], [0, 1, 2, 3, 4, 5, 6, 7, 8, 9, 10, 11, 12, 13, 14, 15, 16, 17, 18, 19, 20, 21, 22, 23, 24, 25, 26, 27, 28, 29, 30, 31, 32, 33, 34, 35, 36]] mixed rfl ?_
          refine dws ?_
          refine d_pure [5] [] rfl rfl (fun _ => gp_none (st_move rfl rfl)) ?_
          refine d_pure [9] [] rfl rfl (fun _ => gp_none (st_move rfl rfl)) ?_
          refine d_pure [54, 55] [] rfl rfl (fun _ => gp_none (st_indexD (k) rfl rfl (rfl) (getm hk1) Tryz.underlying39 rfl sz49 rfl)) ?_
          refine d_pure [56] [] rfl rfl (fun _ => gp_none (st_fieldF1 rfl fi49_0 rfl rfl rfl)) ?_
          refine d_pure [57] [] rfl rfl (fun _ => gp_none (st_loadD1 rfl rfl on3 rfl)) ?_
          refine d_pure [8] [] rfl rfl (fun _ => gp_none (st_move rfl rfl)) ?_
          refine d_pure [9] [] rfl rfl (fun _ => gp_none (st_move rfl rfl)) ?_
          refine d_pure [59, 60] [] rfl rfl (fun _ => gp_none (st_indexD (k) rfl rfl (rfl) (getm hk1) Tryz.underlying42 rfl sz54 rfl)) ?_
          refine d_pure [61] [] rfl rfl (fun _ => gp_none (st_fieldF1 rfl fi54_0 rfl rfl rfl)) ?_
          refine d_pure [62] [] rfl rfl (fun _ => gp_none (st_loadD1 rfl rfl on3 rfl)) ?_
          refine dwc 10 rfl rfl rfl ?_
          refine dw1 11 rfl rfl ?_
          refine Pstep.go (st_neq rfl rfl rfl) ?_
          refine o_nil ⟨rfl, ?_⟩
          refine dw1 12 rfl rfl ?_
          refine Pstep.go (st_move rfl rfl) ?_
          refine o_setF 65 rfl ((by simp)) ?_
          refine o_nil ⟨rfl, ?_⟩
          refine dws ?_
          refine d_pure [5, 65] [] rfl rfl (fun _ => gp_run rfl rfl rfl (st_move rfl rfl)) ?_
          refine d_pure [9, 65] [] rfl rfl (fun _ => gp_run rfl rfl rfl (st_move rfl rfl)) ?_
          refine d_pure [66, 67, 65] [] rfl rfl (fun _ => gp_run rfl rfl rfl (st_indexD (k) rfl rfl (rfl) (getm hk1) Tryz.underlying39 rfl sz49 rfl)) ?_
          refine d_pure [68, 65] [] rfl rfl (fun _ => gp_run rfl rfl rfl (st_fieldF1 rfl fi49_1 rfl rfl rfl)) ?_
          refine d_pure [69, 65] [] rfl rfl (fun _ => gp_run rfl rfl rfl (st_loadD1 rfl rfl on3 rfl)) ?_
          refine d_pure [8, 65] [] rfl rfl (fun _ => gp_run rfl rfl rfl (st_move rfl rfl)) ?_
          refine d_pure [9, 65] [] rfl rfl (fun _ => gp_run rfl rfl rfl (st_move rfl rfl)) ?_
          refine d_pure [71, 72, 65] [] rfl rfl (fun _ => gp_run rfl rfl rfl (st_indexD (k) rfl rfl (rfl) (getm hk1) Tryz.underlying42 rfl sz54 rfl)) ?_
          refine d_pure [73, 65] [] rfl rfl (fun _ => gp_run rfl rfl rfl (st_fieldF1 rfl fi54_1 rfl rfl rfl)) ?_
          refine d_pure [74, 65] [] rfl rfl (fun _ => gp_run rfl rfl rfl (st_loadD1 rfl rfl on3 rfl)) ?_
          refine dwc 22 rfl rfl rfl ?_
          refine dw1 23 rfl rfl ?_
          refine o_run rfl rfl rfl ?_
          refine Pstep.go (st_neq rfl rfl rfl) ?_
          refine o_nil ⟨rfl, ?_⟩
          refine dw1 24 rfl rfl ?_
          refine Pstep.go (st_pickF rfl rfl rfl rfl) ?_
          refine o_nil ⟨rfl, ?_⟩
          refine dw1 25 rfl rfl ?_
          refine Pstep.go (st_move rfl rfl) ?_
          refine o_setF 78 rfl ((by simp)) ?_
          refine o_nil ⟨rfl, ?_⟩
          refine dws ?_
          refine d_pure [5, 78] [] rfl rfl (fun _ => gp_run rfl rfl rfl (st_move rfl rfl)) ?_
          refine d_pure [9, 78] [] rfl rfl (fun _ => gp_run rfl rfl rfl (st_move rfl rfl)) ?_
          refine d_pure [79, 80, 78] [] rfl rfl (fun _ => gp_run rfl rfl rfl (st_indexD (k) rfl rfl (rfl) (getm hk1) Tryz.underlying39 rfl sz49 rfl)) ?_
          refine d_pure [81, 78] [] rfl rfl (fun _ => gp_run rfl rfl rfl (st_fieldFS rfl fi49_2 rfl rfl rfl)) ?_
          refine d_pure [82, 78] [] rfl rfl (fun _ => gp_run rfl rfl rfl (st_loadDS rfl rfl rw47 rfl)) ?_
          refine d_pure [83, 78] [] rfl rfl (fun _ => gp_run rfl rfl rfl (st_callP (backres_p W[k].r) rfl rfl)) ?_
          refine d_pure [8, 78] [] rfl rfl (fun _ => gp_run rfl rfl rfl (st_move rfl rfl)) ?_
          refine d_pure [9, 78] [] rfl rfl (fun _ => gp_run rfl rfl rfl (st_move rfl rfl)) ?_
          refine d_pure [85, 86, 78] [] rfl rfl (fun _ => gp_run rfl rfl rfl (st_indexD (k) rfl rfl (rfl) (getm hk1) Tryz.underlying42 rfl sz54 rfl)) ?_
          refine d_pure [87, 78] [] rfl rfl (fun _ => gp_run rfl rfl rfl (st_fieldFS rfl fi54_2 rfl rfl rfl)) ?_
          refine d_pure [88, 78] [] rfl rfl (fun _ => gp_run rfl rfl rfl (st_loadDS rfl rfl rw52 rfl)) ?_
          refine dwc 36 rfl rfl rfl ?_
          refine dw1 37 rfl rfl ?_
          refine o_run rfl rfl rfl ?_
          refine Pstep.go (st_neqSt (la := rscC W[k].r) (lb := rscC W[k].r) (ds := rscT) (by kernel_rfl) (by kernel_rfl) (by kernel_rfl) rfl rfl rfl rfl (rsc_plain _) (rsc_plain _) (neC (rsc_eqC _ _)) rfl) ?_
          refine o_nil ⟨rfl, ?_⟩
          refine dw1 38 rfl rfl ?_
          refine Pstep.go (st_pickF rfl rfl rfl rfl) ?_
          refine o_nil ⟨rfl, ?_⟩
          refine dwe ?_
          refine a_false rfl ((by simp)) ?_
          refine a_skip ?_
          refine a_region ?_
          refine Pstep.go (st_move rfl rfl) ?_
          refine Pstep.go (st_add rfl rfl (wrapS (k + 1) (by omega)) rfl) ?_
          refine Pstep.go (st_assign rfl rfl) ?_
          refine o_nil ?_
          exact ⟨k + 1, by show k + 1 ≤ _; omega, by show W.length - (k + 1) < W.length - k; omega, lep_of hF [1] rfl (rfl) ⟨rfl, rfl, rfl, trivial⟩⟩
        · refine a_exit ?_
          refine a_seq ?_
          refine a_region ?_
          refine Pstep.go (st_callP (hk) rfl rfl) ?_
          refine Pstep.go (st_assign rfl rfl) ?_
          refine o_nil ?_
          refine a_ret ?_
          exact ⟨_, [], [], res_of rfl, rfl, rfl, rfl, rfl⟩
      · rw [if_neg h0] at c2
        refine a_enter Tryz.func4 rfl rfl Tryz.ntmps4 rfl rfl rfl fun F hF => ?_
        refine a_seq ?_
        refine a_region ?_
        refine Estep.go (st_box 1 rfl rfl rfl rfl rfl rfl rfl) ?_
        refine Pstep.go (st_assign rfl rfl) ?_
        refine o_nil ?_
        refine a_seq ?_
        refine a_seq ?_
        refine a_region ?_
        refine Pstep.go (st_loadPS rfl rfl rw25 rfl rfl rfl) ?_
        refine Pstep.go (st_callP (hs) rfl rfl) ?_
        refine Pstep.go (st_not rfl rfl) ?_
        refine Pstep.go (st_move rfl rfl) ?_
        refine o_setF 13 rfl (rfl) ?_
        refine o_run rfl rfl rfl ?_
        refine Pstep.go (st_move rfl rfl) ?_
        refine o_run rfl rfl rfl ?_
        refine Pstep.go (st_lenMap rfl Tryz.underlying26 rfl) ?_
        refine o_run rfl rfl rfl ?_
        refine Pstep.go (st_gtr rfl rfl rfl) ?_
        refine Pstep.go (st_pickF rfl rfl rfl rfl) ?_
        refine o_nil ?_
        refine a_false rfl ((decide_eq_false (by omega))) ?_
        refine a_skip ?_
        refine a_seq ?_
        refine a_region ?_
        refine Pstep.go (st_loadPS rfl rfl rw25 rfl rfl rfl) ?_
        refine Pstep.go (st_callP (c1) rfl rfl) ?_
        refine Pstep.go (st_move rfl rfl) ?_
        refine Pstep.go (st_callP (c2) rfl rfl) ?_
        refine Pstep.go (st_move rfl rfl) ?_
        refine Pstep.go (st_extractD rfl rfl rfl) ?_
        refine Pstep.go (st_extractD rfl rfl rfl) ?_
        refine Pstep.go (st_assign rfl rfl) ?_
        refine Pstep.go (st_assign rfl rfl) ?_
        refine o_nil ?_
        refine a_seq ?_
        refine a_region ?_
        refine Pstep.go (st_loadPS rfl rfl rw25 rfl rfl rfl) ?_
        refine Pstep.go (st_move rfl rfl) ?_
        refine Pstep.go (st_callP (c4) rfl rfl) ?_
        refine Pstep.go (st_assign rfl rfl) ?_
        refine o_nil ?_
        refine a_seq ?_
        refine a_seq ?_
        refine a_region ?_
        refine Pstep.go (st_move rfl rfl) ?_
        refine Pstep.go (st_move rfl rfl) ?_
        refine Pstep.go (st_neq rfl rfl rfl) ?_
        refine o_nil ?_
        refine a_false rfl ((by simp)) ?_
        refine a_skip ?_
        refine a_seq ?_
        refine a_seq ?_
        refine a_region ?_
        refine Pstep.go (st_move rfl rfl) ?_
        refine Pstep.go (st_neq rfl rfl rfl) ?_
        refine o_nil ?_
        refine a_true rfl ((decide_eq_true h0)) ?_
        refine a_seq ?_
        refine a_region ?_
        refine Pstep.go (st_callP (hk) rfl rfl) ?_
        refine Pstep.go (st_move rfl rfl) ?_
        refine o_setT 35 rfl (rfl) ?_
        refine o_run rfl rfl rfl ?_
        refine Pstep.go (st_move rfl rfl) ?_
        refine o_run rfl rfl rfl ?_
        refine Pstep.go (st_lenMap rfl Tryz.underlying39 rfl) ?_
        refine o_run rfl rfl rfl ?_
        refine Pstep.go (st_eql rfl rfl rfl) ?_
        refine Pstep.go (st_pickT rfl rfl rfl rfl) ?_
        refine Pstep.go (st_assign rfl rfl) ?_
        refine o_nil ?_
        refine a_ret ?_
        exact ⟨_, [], [], res_of rfl, rfl, rfl, rfl, rfl⟩
    · have hll : ¬ l.length ≤ 20 := hl
      refine a_enter Tryz.func4 rfl rfl Tryz.ntmps4 rfl rfl rfl fun F hF => ?_
      refine a_seq ?_
      refine a_region ?_
      refine Estep.go (st_box 1 rfl rfl rfl rfl rfl rfl rfl) ?_
      refine Pstep.go (st_assign rfl rfl) ?_
      refine o_nil ?_
      refine a_seq ?_
      refine a_seq ?_
      refine a_region ?_
      refine Pstep.go (st_loadPS rfl rfl rw25 rfl rfl rfl) ?_
      refine Pstep.go (st_callP (hs) rfl rfl) ?_
      refine Pstep.go (st_not rfl rfl) ?_
      refine Pstep.go (st_move rfl rfl) ?_
      refine o_setF 13 rfl (rfl) ?_
      refine o_run rfl rfl rfl ?_
      refine Pstep.go (st_move rfl rfl) ?_
      refine o_run rfl rfl rfl ?_
      refine Pstep.go (st_lenMap rfl Tryz.underlying26 rfl) ?_
      refine o_run rfl rfl rfl ?_
      refine Pstep.go (st_gtr rfl rfl rfl) ?_
      refine Pstep.go (st_pickF rfl rfl rfl rfl) ?_
      refine o_nil ?_
      refine a_true rfl ((decide_eq_true (by omega))) ?_
      refine a_seq ?_
      refine a_region ?_
      refine Pstep.go (st_callP (hk) rfl rfl) ?_
      refine Pstep.go (st_assign rfl rfl) ?_
      refine o_nil ?_
      refine a_ret ?_
      exact ⟨_, [], [], res_of rfl, rfl, rfl, rfl, rfl⟩
  · rw [decide_eq_false hf] at hs
    refine a_enter Tryz.func4 rfl rfl Tryz.ntmps4 rfl rfl rfl fun F hF => ?_
    refine a_seq ?_
    refine a_region ?_
    refine Estep.go (st_box 1 rfl rfl rfl rfl rfl rfl rfl) ?_
    refine Pstep.go (st_assign rfl rfl) ?_
    refine o_nil ?_
    refine a_seq ?_
    refine a_seq ?_
    refine a_region ?_
    refine Pstep.go (st_loadPS rfl rfl rw25 rfl rfl rfl) ?_
    refine Pstep.go (st_callP (hs) rfl rfl) ?_
    refine Pstep.go (st_not rfl rfl) ?_
    refine Pstep.go (st_move rfl rfl) ?_
    refine o_setT 13 rfl (rfl) ?_
    refine o_pass rfl rfl rfl rfl ?_
    refine o_pass rfl rfl rfl rfl ?_
    refine o_pass rfl rfl rfl rfl ?_
    refine Pstep.go (st_pickT rfl rfl rfl rfl) ?_
    refine o_nil ?_
    refine a_true rfl rfl ?_
    refine a_seq ?_
    refine a_region ?_
    refine Pstep.go (st_callP (hk) rfl rfl) ?_
    refine Pstep.go (st_assign rfl rfl) ?_
    refine o_nil ?_
    refine a_ret ?_
    exact ⟨_, [], [], res_of rfl, rfl, rfl, rfl, rfl⟩
end Go.Proofs.YtnamabifclidmaaGreat
/- Layer 28: how the laws' arguments are opened. -/
namespace Go.Proofs.YtnamabifclidmaaGreat
open Go.ChangeShapes Go.WideShapes Go.ChangeAt Go.RowKit

section
variable {H : Type} {enc : TypeId × Value → H} {w : World}
abbrev tt {α : Type} : α → Prop := fun _ => True
theorem oI : OpenT enc Tryz.prog w 3 1 intD tt := (openI64 Tryz.underlying3).asQ id (fun _ _ => rfl) (fun _ _ => trivial)
theorem oJ : OpenT enc Tryz.prog w 2 1 intD tt := (openI64 Tryz.underlying2).asQ id (fun _ _ => rfl) (fun _ _ => trivial)
theorem oS : OpenT enc Tryz.prog w 9 1 strD tt := (openStrL Tryz.underlying9).asQ id (fun _ _ => rfl) (fun _ _ => trivial)
theorem oIs : OpenT enc Tryz.prog w 26 1 (fun l : List Int => .sl none (l.map intD)) tt := (openSl Tryz.underlying26 (by kernel_rfl) (by omega) (b := 8) (by kernel_rfl) oI).asQ id (fun _ _ => rfl) (fun _ _ => trivial)
theorem oAcc : OpenT enc Tryz.prog w 50 3 accD tt :=
  (openSt Tryz.underlying50 (by kernel_rfl) (openFc rfl (by kernel_rfl) oS (openFc rfl (by kernel_rfl) oI (openFc rfl (by kernel_rfl) oS openF0)))).asQ (fun a => (⟨a.1, a.2.1, a.2.2.1⟩ : Acc)) (fun _ _ => rfl) (fun _ _ => trivial)
theorem oPost : OpenT enc Tryz.prog w 144 4 postD tt :=
  (openSt Tryz.underlying144 (by kernel_rfl) (openFc rfl (by kernel_rfl) oAcc (openFc rfl (by kernel_rfl) oJ openF0))).asQ (fun a => (⟨a.1, a.2.1⟩ : Post)) (fun _ _ => rfl) (fun _ _ => trivial)
theorem oPay : OpenT enc Tryz.prog w 147 3 payD tt :=
  (openSt Tryz.underlying147 (by kernel_rfl) (openFc rfl (by kernel_rfl) oS (openFc rfl (by kernel_rfl) oS (openFc rfl (by kernel_rfl) oJ openF0)))).asQ (fun a => (⟨a.1, a.2.1, a.2.2.1⟩ : Pay)) (fun _ _ => rfl) (fun _ _ => trivial)
theorem oRsc : OpenT enc Tryz.prog w 52 6 rscD tt :=
  (openSt Tryz.underlying52 (by kernel_rfl) (openFc rfl (by kernel_rfl) oI (openFc rfl (by kernel_rfl) oAcc (openFc rfl (by kernel_rfl) oS (openFc rfl (by kernel_rfl) oS openF0))))).asQ (fun a => (⟨a.1, a.2.1, a.2.2.1, a.2.2.2.1⟩ : Rsc)) (fun _ _ => rfl) (fun _ _ => trivial)
theorem oItm : OpenT enc Tryz.prog w 80 6 itmD tt :=
  (openSt Tryz.underlying80 (by kernel_rfl) (openFc rfl (by kernel_rfl) oI (openFc rfl (by kernel_rfl) oI (openFc rfl (by kernel_rfl) oI
    (openFc rfl (by kernel_rfl) (openSl Tryz.underlying77 (by kernel_rfl) (by omega) (b := 48) (by kernel_rfl) oPost)
    (openFc rfl (by kernel_rfl) (openSl Tryz.underlying78 (by kernel_rfl) (by omega) (b := 40) (by kernel_rfl) oPay) (openFc rfl (by kernel_rfl) oIs openF0))))))).asQ
    (fun a => (⟨a.1, a.2.1, a.2.2.1, a.2.2.2.1, a.2.2.2.2.1, a.2.2.2.2.2.1⟩ : Itm)) (fun _ _ => rfl) (fun _ _ => trivial)
theorem oRoo : OpenT enc Tryz.prog w 104 7 rooD tt :=
  (openSt Tryz.underlying104 (by kernel_rfl) (openFc rfl (by kernel_rfl) oRsc (openFc rfl (by kernel_rfl) oJ openF0))).asQ (fun a => (⟨a.1, a.2.1⟩ : Roo)) (fun _ _ => rfl) (fun _ _ => trivial)
theorem oPrb : OpenT enc Tryz.prog w 25 2 prbD tt :=
  (openSt Tryz.underlying25 (by kernel_rfl) (openFc rfl (by kernel_rfl) (openSl Tryz.underlying22 (by kernel_rfl) (by omega) (b := 88) (by kernel_rfl) oRoo) (openFc rfl (by kernel_rfl) (openSl Tryz.underlying23 (by kernel_rfl) (by omega) (b := 96) (by kernel_rfl) oItm) openF0))).asQ
    (fun a => (⟨a.1, a.2.1⟩ : Prb)) (fun _ _ => rfl) (fun _ _ => trivial)
end
end Go.Proofs.YtnamabifclidmaaGreat
/- 'girolaw29.FeasibleBlocks': for every input the law returns true, and each argument reads behind the call as it read before. No condition. -/
namespace Go.Proofs.YtnamabifclidmaaGreat
open Go.ChangeShapes Go.WideShapes Go.ChangeAt Go.RowKit

set_option maxRecDepth 100000 in
theorem feasibleBlocks_lifted (os : Os) (started : os.Started) (H : Type) (enc : TypeId × Value → H) :
    ReturnsInHanded {} Tryz.checked os 4 .any (Rows.feasibleBlocksSpec.pre6 enc Tryz.prog Tryz.f4 Rows.feasibleBlocksRow.domain false) (Rows.feasibleBlocksSpec.post enc Tryz.prog Tryz.f4 false true false false) := by
  refine returnsInHanded_of_change_sized (C := Tryz.checked) Tryz.own started (by kernel_rfl) Tryz.func4
    (ChangeSpec.witness6 (enc := enc) (C := Tryz.checked) false ⟨#[], #[.agg #[.slice none 0 0, .slice none 0 0], .slice none 0 0], []⟩ 8 (by kernel_rfl) (by kernel_rfl) (by kernel_rfl) (by kernel_rfl)) ?_
  intro W base args ds gs before hval0 hW _ hwt _
  have hW' := hW
  obtain ⟨p, q, hA0, hV, rfl, _, _⟩ := hW
  have hlt : ∀ x ∈ p ++ q, x.block < W.heap.size := fun x hx => hW'.lt x hx
  have hA : DataW.TrodAll enc Tryz.prog W 0 (fun _ => true) true Tryz.f4.params.toList args.toList ds p := hA0
  rw [Tryz.params4] at hA
  obtain ⟨v0, v1, d0, d1, p0, p1, rfl, rfl, rfl, h0, h1⟩ := trodAll_two hA
  obtain ⟨rfl, rfl⟩ := trodVars_none hV
  have hwz : ∀ n ∈ DataW.weightsEach Tryz.prog ([25, 26] : List TypeId) ([d0, d1]), n ≤ reachBytes := fun n hn => of_decide_eq_true (List.all_eq_true.1 hwt n (by rw [Tryz.params4]; exact hn))
  have hval : ∀ (j : Nat) t v, Tryz.f4.params[j]? = some t → (#[v0, v1] : Array Value)[j]? = some v → Value.okWide Tryz.prog W .any base t v := hval0
  rw [Tryz.params4] at hval
  obtain ⟨n0, g0⟩ := h0
  obtain ⟨cs0, rfl, _⟩ := okWide_struct Tryz.underlying25 (hval 0 25 v0 rfl rfl)
  obtain ⟨a0, q0, _, r0⟩ := (oPrb) _ _ _ g0 (fun x hx => hlt x (by simp [hx])) (fun n hn => hwz n (DataW.weights_mem_each (j := 0) (t := 25) rfl rfl n hn))
  obtain ⟨n1, g1⟩ := h1
  have hv1 : v1.oneCell' = true := by obtain ⟨_, _, _, e⟩ := okWide_slice Tryz.underlying26 (hval 1 26 v1 rfl rfl); rw [e]; rfl
  obtain ⟨a1, q1, _, r1⟩ := (openSl Tryz.underlying26 (by kernel_rfl) (by omega) (b := 8) (by kernel_rfl) (openInt Tryz.underlying3)) _ _ _ g1 (fun x hx => hlt x (by simp [hx])) (fun n hn => hwz n (DataW.weights_mem_each (j := 1) (t := 26) rfl rfl n hn))
  refine (law_calls (lawF2_p a0 a1) (vs := [.agg cs0, v1]) rfl (fun i a v ha hv => ?_)).mono fun e W' ⟨he, hb⟩ => ?_
  · rcases i with _ | _ | i
    · simp at ha hv; subst ha hv; exact RepC.argS rfl r0
    · simp at ha hv; subst ha hv; exact RepC.arg1 rfl rfl hv1 r1
    · simp at ha
  subst he
  exact ⟨_, rfl, law_post (tb := 4) Tryz.laidOut (by kernel_rfl) rfl rfl Tryz.underlying4 hW' ⟨rfl, rfl, rfl⟩ hb⟩

theorem feasibleBlocks_holds : Rows.FeasibleBlocksSaid :=
  OpenClaim.holds_of_wide 4 Tryz.f4 rfl rfl rfl rfl rfl rfl rfl ⟨rfl, rfl, rfl, rfl, rfl⟩ rfl rfl rfl rfl rfl (by kernel_rfl) Tryz.func4 (by kernel_rfl)
    (of_decide_eq_true (by kernel_rfl)) (by unfold Func.isWrapper; first | (rw [if_pos (by decide +kernel)]; kernel_rfl) | (rw [if_neg (by decide +kernel)]; exact ⟨rfl, rfl⟩))
    (fun os started H enc _ => feasibleBlocks_lifted os started H enc)
#print axioms feasibleBlocks_holds

end Go.Proofs.YtnamabifclidmaaGreat
