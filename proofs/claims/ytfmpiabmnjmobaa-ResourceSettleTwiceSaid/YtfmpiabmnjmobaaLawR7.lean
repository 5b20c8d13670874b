/- Layer 28: conversion of problems; the law of problems' checks. -/
import Derived.Test.YtfmpiabmnjmobaaRes6
namespace Go.Proofs.Ytfmpiabmnjmobaa
open Go.RowKit

set_option maxRecDepth 100000 in
theorem own_p (p : Prb) (h : Sml p) : PCalls Try.prog 28 [.d (prbD p)] (prbD p) := by
  obtain ⟨g1, g2, g3⟩ := h
  refine a_enter Try.func28 rfl rfl Try.ntmps28 rfl rfl rfl fun F hF => ?_
  refine a_seq ?_
  refine a_region ?_
  refine Estep.go (st_box 1 rfl rfl rfl rfl rfl rfl rfl) ?_
  refine Estep.go (st_alloc 2 zl72 rfl rfl rfl rfl) ?_
  refine o_nil ?_
  refine a_seq ?_
  refine a_region ?_
  refine Estep.go (st_alloc 3 zl72 rfl rfl rfl rfl) ?_
  refine o_nil ?_
  refine a_seq ?_
  refine a_seq ?_
  refine a_adoptC 3 0 0 901 sl69 rfl rfl rfl rfl rfl rfl rfl ?_
  refine a_region ?_
  refine Pstep.go (st_assign rfl rfl) ?_
  refine o_nil ?_
  refine a_block ?_
  refine a_loopP (α := List Roo) (fun acc => ⟨51, [(1, (.ptr 1 0 0)), (2, (.ptr 2 0 0)), (3, (.ptr 3 0 0)), (4, (.d (intD (acc.length : Int))))], [(901, [.rowD 124 7 (acc.map rooD)]), (1, [prbB2 67 p]), (2, [.blk 72 [nilC, nilC]]), (3, [.blk 72 [.own 901 0 acc.length, nilC]])]⟩) (fun acc => acc = p.ro.take acc.length ∧ acc.length ≤ p.ro.length) (fun acc => p.ro.length - acc.length) ([]) (⟨by simp, Nat.zero_le _⟩) (lep_of hF [901, 1, 2, 3] rfl rfl ⟨rfl, rfl, rfl, rfl, trivial⟩) ?_
  rintro acc ⟨hI, hk0⟩
  refine a_seq ?_
  refine a_seq ?_
  refine a_region ?_
  refine Pstep.go (st_move rfl rfl) ?_
  refine Pstep.go (st_fieldP rfl fi67_0 rfl rfl rfl) ?_
  refine Pstep.go (st_loadP rfl rfl rfl on58 rfl) ?_
  refine Pstep.go (st_lenMap rfl Try.underlying58 rfl) ?_
  refine Pstep.go (st_lss rfl rfl rfl) ?_
  refine o_nil ?_
  refine a_if rfl (fun h10 => ?_) (fun h10 => ?_)
  · have hk1 : acc.length < p.ro.length := lt_cast h10
    refine a_skip ?_
    refine a_seq ?_
    refine a_block ?_
    refine a_drawn [[], [0], [], [2], [], [2, 3, 4], [2, 3, 4, 5], [2, 3, 4, 5, 6], [2, 3, 4, 5, 6, 7], [], [9], [], [9, 10, 11], [9, 10, 11, 12], [9, 10, 11, 12, 13], [2, 3, 4, 5, 6, 7, 8, 9, 10, 11, 12, 13, 14], [2, 3, 4, 5, 6, 7, 8, 9, 10, 11, 12, 13, 14, 15], [0, 1, 2, 3, 4, 5, 6, 7, 8, 9, 10, 11, 12, 13, 14, 15, 16], [0, 1, 2, 3, 4, 5, 6, 7, 8, 9, 10, 11, 12, 13, 14, 15, 16, 17], [0, 1, 2, 3, 4, 5, 6, 7, 8, 9, 10, 11, 12, 13, 14, 15, 16, 17, 18]] mixed rfl ?_
    refine dws ?_
    refine d_pure [3] [] rfl rfl (fun _ => gp_none (st_fieldP rfl fi72_0 rfl rfl rfl)) ?_
    refine d_pureA [13] rfl rfl (fun _ => gp_none (st_loadP rfl rfl rfl on69 rfl)) ?_
    refine d_pure [1] [] rfl rfl (fun _ => gp_none (st_fieldP rfl fi67_0 rfl rfl rfl)) ?_
    refine d_pureA [15] rfl rfl (fun _ => gp_none (st_loadP rfl rfl rfl on58 rfl)) ?_
    refine d_pure [4] [] rfl rfl (fun _ => gp_none (st_move rfl rfl)) ?_
    refine d_pure [16, 17] [] rfl rfl (fun _ => gp_none (st_indexD (acc.length) rfl rfl (rfl) (getm hk1) Try.underlying58 rfl sz61 rfl)) ?_
    refine d_pure [18] [] rfl rfl (fun _ => gp_none (st_fieldFS rfl fi61_0 rfl rfl rfl)) ?_
    refine d_pure [19] [] rfl rfl (fun _ => gp_none (st_loadDS rfl rfl rw48 rfl)) ?_
    refine d_pure [20] [] rfl rfl (fun _ => gp_none (st_callP (ownres_p p.ro[acc.length].r) rfl rfl)) ?_
    refine d_pure [1] [] rfl rfl (fun _ => gp_none (st_fieldP rfl fi67_0 rfl rfl rfl)) ?_
    refine d_pureA [22] rfl rfl (fun _ => gp_none (st_loadP rfl rfl rfl on58 rfl)) ?_
    refine d_pure [4] [] rfl rfl (fun _ => gp_none (st_move rfl rfl)) ?_
    refine d_pure [23, 24] [] rfl rfl (fun _ => gp_none (st_indexD (acc.length) rfl rfl (rfl) (getm hk1) Try.underlying58 rfl sz61 rfl)) ?_
    refine d_pure [25] [] rfl rfl (fun _ => gp_none (st_fieldF1 rfl fi61_1 rfl rfl rfl)) ?_
    refine d_pure [26] [] rfl rfl (fun _ => gp_none (st_loadD1 rfl rfl on2 rfl)) ?_
    refine d_pure [21, 27] [] rfl rfl (fun _ => gp_none (st_build zl124 pl124 rfl rfl rfl)) ?_
    refine d_eff [28] [50] [(29, _)] rfl rfl (fun _ => ge_none (st_buildSlice 50 sl69 rfl rfl rfl rfl rfl rfl rfl rfl)) (.inr ⟨29, _, rfl, rfl, rfl, rfl, rfl⟩) rfl rfl rfl rfl rfl ?_
    refine dwc 17 rfl rfl rfl ?_
    refine dw1 18 rfl rfl ?_
    refine Estep.go (st_appM (acc) ([p.ro[acc.length]]) rfl rfl rfl rfl rfl rfl rfl rfl sl69 (by simp only [List.length_singleton]; omega) rfl rfl rfl rfl) ?_
    refine o_nil ⟨rfl, ?_⟩
    refine dw1 19 rfl rfl ?_
    refine Pstep.go (st_fieldP rfl fi72_0 rfl rfl rfl) ?_
    refine o_nil ⟨rfl, ?_⟩
    refine dw1 20 rfl rfl ?_
    refine Estep.go (st_storeP rfl rfl rfl rfl rfl rfl rfl sz69) ?_
    refine o_nil ⟨rfl, ?_⟩
    refine dwe ?_
    refine a_region ?_
    refine Pstep.go (st_move rfl rfl) ?_
    refine Pstep.go (st_add rfl rfl (wrapA acc p.ro[acc.length] (by omega)) rfl) ?_
    refine Pstep.go (st_assign rfl rfl) ?_
    refine o_nil ?_
    exact ⟨acc ++ [p.ro[acc.length]], ⟨tk_next hI hk1, by rw [List.length_append]; show acc.length + 1 ≤ _; omega⟩, by rw [List.length_append]; show p.ro.length - (acc.length + 1) < p.ro.length - acc.length; omega, lep_of hF [901, 1, 2, 3] rfl (rfl) ⟨rfl, rfl, rfl, rfl, trivial⟩⟩
  · refine a_exit ?_
    refine a_seq ?_
    refine a_seq ?_
    have hacc := tk_end hI (fun h => h10 (by omega))
    refine a_freezeC (ys := p.ro.map rooD) 3 0 0 901 rfl rfl rfl (by simp) (by rw [hacc]; exact List.take_of_length_le (by simp)) rfl rfl rfl rfl rfl rfl ?_
    refine a_adoptC 3 0 1 902 sl70 rfl rfl rfl rfl rfl rfl rfl ?_
    refine a_region ?_
    refine Pstep.go (st_assign rfl rfl) ?_
    refine o_nil ?_
    refine a_block ?_
    refine a_loopP (α := List Itm) (fun acc2 => ⟨51, [(1, (.ptr 1 0 0)), (2, (.ptr 2 0 0)), (3, (.ptr 3 0 0)), (5, (.d (intD (acc2.length : Int))))], [(902, [.rowD 33 6 (acc2.map itmD)]), (1, [prbB2 67 p]), (2, [.blk 72 [nilC, nilC]]), (3, [.blk 72 [.d (.sl none (p.ro.map rooD)), .own 902 0 acc2.length]])]⟩) (fun acc2 => acc2 = p.it.take acc2.length ∧ acc2.length ≤ p.it.length) (fun acc2 => p.it.length - acc2.length) ([]) (⟨by simp, Nat.zero_le _⟩) (lep_of hF [902, 1, 2, 3] rfl rfl ⟨rfl, rfl, rfl, rfl, trivial⟩) ?_
    rintro acc2 ⟨hJ, hk2⟩
    refine a_seq ?_
    refine a_seq ?_
    refine a_region ?_
    refine Pstep.go (st_move rfl rfl) ?_
    refine Pstep.go (st_fieldP rfl fi67_1 rfl rfl rfl) ?_
    refine Pstep.go (st_loadP rfl rfl rfl on65 rfl) ?_
    refine Pstep.go (st_lenMap rfl Try.underlying65 rfl) ?_
    refine Pstep.go (st_lss rfl rfl rfl) ?_
    refine o_nil ?_
    refine a_if rfl (fun h36 => ?_) (fun h36 => ?_)
    · have hk3 : acc2.length < p.it.length := lt_cast h36
      refine a_skip ?_
      refine a_seq ?_
      refine a_block ?_
      refine a_drawn [[], [0], [], [2], [], [2, 3, 4], [2, 3, 4, 5], [2, 3, 4, 5, 6], [2, 3, 4, 5, 6, 7], [0, 1, 2, 3, 4, 5, 6, 7, 8], [0, 1, 2, 3, 4, 5, 6, 7, 8, 9], [0, 1, 2, 3, 4, 5, 6, 7, 8, 9, 10]] mixed rfl ?_
      refine dws ?_
      refine d_pure [3] [] rfl rfl (fun _ => gp_none (st_fieldP rfl fi72_1 rfl rfl rfl)) ?_
      refine d_pureA [39] rfl rfl (fun _ => gp_none (st_loadP rfl rfl rfl on70 rfl)) ?_
      refine d_pure [1] [] rfl rfl (fun _ => gp_none (st_fieldP rfl fi67_1 rfl rfl rfl)) ?_
      refine d_pureA [41] rfl rfl (fun _ => gp_none (st_loadP rfl rfl rfl on65 rfl)) ?_
      refine d_pure [5] [] rfl rfl (fun _ => gp_none (st_move rfl rfl)) ?_
      have hgi := g3 _ (List.getElem_mem hk3)
      refine d_pure [42, 43] [] rfl rfl (fun _ => gp_none (st_indexD (acc2.length) rfl rfl (rfl) (getm hk3) Try.underlying65 rfl sz26 rfl)) ?_
      refine d_pure [44] [] rfl rfl (fun _ => gp_none (st_loadDS rfl rfl rw26 rfl)) ?_
      refine d_pure [45] [] rfl rfl (fun _ => gp_none (st_callP (ownitem_p p.it[acc2.length] (by omega) (by omega) (by omega)) rfl rfl)) ?_
      refine d_eff [46] [51] [(47, _)] rfl rfl (fun _ => ge_none (st_buildSlice 51 sl70 rfl rfl rfl rfl rfl rfl rfl rfl)) (.inr ⟨47, _, rfl, rfl, rfl, rfl, rfl⟩) rfl rfl rfl rfl rfl ?_
      refine dwc 9 rfl rfl rfl ?_
      refine dw1 10 rfl rfl ?_
      refine Estep.go (st_appM (acc2) ([p.it[acc2.length]]) rfl rfl rfl rfl rfl rfl rfl rfl sl70 (by simp only [List.length_singleton]; omega) rfl rfl rfl rfl) ?_
      refine o_nil ⟨rfl, ?_⟩
      refine dw1 11 rfl rfl ?_
      refine Pstep.go (st_fieldP rfl fi72_1 rfl rfl rfl) ?_
      refine o_nil ⟨rfl, ?_⟩
      refine dw1 12 rfl rfl ?_
      refine Estep.go (st_storeP rfl rfl rfl rfl rfl rfl rfl sz70) ?_
      refine o_nil ⟨rfl, ?_⟩
      refine dwe ?_
      refine a_region ?_
      refine Pstep.go (st_move rfl rfl) ?_
      refine Pstep.go (st_add rfl rfl (wrapA acc2 p.it[acc2.length] (by omega)) rfl) ?_
      refine Pstep.go (st_assign rfl rfl) ?_
      refine o_nil ?_
      exact ⟨acc2 ++ [p.it[acc2.length]], ⟨tk_next hJ hk3, by rw [List.length_append]; show acc2.length + 1 ≤ _; omega⟩, by rw [List.length_append]; show p.it.length - (acc2.length + 1) < p.it.length - acc2.length; omega, lep_of hF [902, 1, 2, 3] rfl (rfl) ⟨rfl, rfl, rfl, rfl, trivial⟩⟩
    · refine a_exit ?_
      refine a_seq ?_
      have hacc2 := tk_end hJ (fun h => h36 (by omega))
      refine a_freezeC (ys := p.it.map itmD) 3 0 1 902 rfl rfl rfl (by simp) (by rw [hacc2]; exact List.take_of_length_le (by simp)) rfl rfl rfl rfl rfl rfl ?_
      refine a_region ?_
      refine Pstep.go (st_loadPS rfl rfl rw72 rfl rfl rfl) ?_
      refine Estep.go (st_storeP rfl rfl rfl rfl rfl rfl rfl sz72) ?_
      refine o_nil ?_
      refine a_ret ?_
      exact ⟨_, [], [], res_of rfl, rfl, rfl, rfl, rfl⟩
theorem sml_B {p : Prb} (h : Sml p) : PrbB p := ⟨by have := h.2.1; omega, by have := h.1; omega, fun i hi => by have := h.2.2 i hi; omega⟩
end Go.Proofs.Ytfmpiabmnjmobaa
