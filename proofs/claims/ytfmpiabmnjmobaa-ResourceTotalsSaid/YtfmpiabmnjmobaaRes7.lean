/- Layer 28: the reference's order of items; conversion back. -/
import Derived.Test.YtfmpiabmnjmobaaRes6
namespace Go.Proofs.Ytfmpiabmnjmobaa
open Go.RowKit

set_option maxRecDepth 100000 in
theorem backitem_p (i : Itm) (g1 : i.po.length ≤ 10000) (g2 : i.pa.length ≤ 10000) (g3 : i.af.length ≤ 10000) : PCalls Try.prog 36 [.d (itmD i)] (itmD i) := by
  refine a_enter Try.func36 rfl rfl Try.ntmps36 rfl rfl rfl fun F hF => ?_
  refine a_seq ?_
  refine a_region ?_
  refine Estep.go (st_box 1 rfl rfl rfl rfl rfl rfl rfl) ?_
  refine Estep.go (st_alloc 2 zl26 rfl rfl rfl rfl) ?_
  refine o_nil ?_
  refine a_seq ?_
  refine a_drawn [[], [0], [], [2], [], [4], [], [], [7], [6, 7, 8], [0, 1, 2, 3, 4, 5, 6, 7, 8, 9], [], [0, 1, 2, 3, 4, 5, 6, 7, 8, 9, 10, 11]] mixed rfl ?_
  refine dws ?_
  refine d_pure [1] [] rfl rfl (fun _ => gp_none (st_fieldP rfl fi33_0 rfl rfl rfl)) ?_
  refine d_pureA [6] rfl rfl (fun _ => gp_none (st_loadP rfl rfl rfl on3 rfl)) ?_
  refine d_pure [1] [] rfl rfl (fun _ => gp_none (st_fieldP rfl fi33_1 rfl rfl rfl)) ?_
  refine d_pureA [8] rfl rfl (fun _ => gp_none (st_loadP rfl rfl rfl on3 rfl)) ?_
  refine d_pure [1] [] rfl rfl (fun _ => gp_none (st_fieldP rfl fi33_2 rfl rfl rfl)) ?_
  refine d_pureA [10] rfl rfl (fun _ => gp_none (st_loadP rfl rfl rfl on3 rfl)) ?_
  refine d_eff [] [3] [(12, _)] rfl rfl (fun _ => ge_none (st_buildSlice 3 sl24 rfl rfl rfl rfl rfl rfl rfl rfl)) (.inr ⟨12, _, rfl, rfl, rfl, rfl, rfl⟩) rfl rfl rfl rfl rfl ?_
  refine d_pure [1] [] rfl rfl (fun _ => gp_none (st_fieldP rfl fi33_5 rfl rfl rfl)) ?_
  refine d_pureA [13] rfl rfl (fun _ => gp_none (st_loadP rfl rfl rfl on24 rfl)) ?_
  refine d_eff [12, 14] [3] [(15, _)] rfl rfl (fun _ => ge_none (st_appMD (([] : List Int)) (i.af) rfl rfl rfl rfl rfl rfl (fun _ => rfl) sl24 (by simp only [List.length_nil]; omega) rfl rfl rfl rfl)) (.inr ⟨15, _, rfl, rfl, rfl, rfl, rfl⟩) rfl rfl rfl rfl rfl ?_
  refine d_pure [7, 9, 11, 15] [] rfl rfl (fun _ => gp_none (st_build zl26 pl26 rfl rfl rfl)) ?_
  refine d_eff [] [4] [(3, _)] rfl rfl (fun _ => ge_none (st_alloc 4 zl26 rfl rfl rfl rfl)) (.inr ⟨3, _, rfl, rfl, rfl, rfl, rfl⟩) rfl rfl rfl rfl rfl ?_
  refine dwc 12 rfl rfl rfl ?_
  refine dw1 13 rfl rfl ?_
  refine Estep.go (st_storeP rfl rfl rfl rfl rfl rfl rfl sz26) ?_
  refine o_nil ⟨rfl, ?_⟩
  refine dwe ?_
  refine a_seq ?_
  refine a_seq ?_
  refine a_freezeC (ys := i.af.map intD) 4 0 5 3 rfl rfl rfl (by simp) (List.take_of_length_le (by simp)) rfl rfl rfl rfl rfl rfl ?_
  refine a_adoptC 4 0 3 901 sl22 rfl rfl rfl rfl rfl rfl rfl ?_
  refine a_region ?_
  refine Pstep.go (st_assign rfl rfl) ?_
  refine o_nil ?_
  refine a_block ?_
  refine a_loopP (α := List Post) (fun acc => ⟨60, [(1, (.ptr 1 0 0)), (2, (.ptr 2 0 0)), (3, (.ptr 4 0 0)), (4, (.d (intD (acc.length : Int))))], [(901, [.rowD 104 4 (acc.map postD)]), (1, [.blk 33 [.d (intD i.id), .d (intD i.pr), .d (intD i.sq), .d (.sl none (i.po.map postD)), .d (.sl none (i.pa.map payD)), .d (.sl none (i.af.map intD))]]), (2, [.blk 26 [.d (intD 0), .d (intD 0), .d (intD 0), nilC, nilC, nilC]]), (4, [.blk 26 [.d (intD i.id), .d (intD i.pr), .d (intD i.sq), .own 901 0 acc.length, nilC, .d (.sl none (i.af.map intD))]])]⟩) (fun acc => acc = i.po.take acc.length ∧ acc.length ≤ i.po.length) (fun acc => i.po.length - acc.length) ([]) (⟨by simp, Nat.zero_le _⟩) (lep_of hF [901, 1, 2, 4] rfl rfl ⟨rfl, rfl, rfl, rfl, trivial⟩) ?_
  rintro acc ⟨hI, hk0⟩
  refine a_seq ?_
  refine a_seq ?_
  refine a_region ?_
  refine Pstep.go (st_move rfl rfl) ?_
  refine Pstep.go (st_fieldP rfl fi33_3 rfl rfl rfl) ?_
  refine Pstep.go (st_loadP rfl rfl rfl on30 rfl) ?_
  refine Pstep.go (st_lenMap rfl Try.underlying30 rfl) ?_
  refine Pstep.go (st_lss rfl rfl rfl) ?_
  refine o_nil ?_
  refine a_if rfl (fun h21 => ?_) (fun h21 => ?_)
  · have hk1 : acc.length < i.po.length := lt_cast h21
    refine a_skip ?_
    refine a_seq ?_
    refine a_block ?_
    refine a_drawn [[], [0], [], [2], [], [2, 3, 4], [2, 3, 4, 5], [2, 3, 4, 5, 6], [], [8], [], [8, 9, 10], [8, 9, 10, 11], [8, 9, 10, 11, 12], [2, 3, 4, 5, 6, 7, 8, 9, 10, 11, 12, 13], [2, 3, 4, 5, 6, 7, 8, 9, 10, 11, 12, 13, 14], [0, 1, 2, 3, 4, 5, 6, 7, 8, 9, 10, 11, 12, 13, 14, 15], [0, 1, 2, 3, 4, 5, 6, 7, 8, 9, 10, 11, 12, 13, 14, 15, 16], [0, 1, 2, 3, 4, 5, 6, 7, 8, 9, 10, 11, 12, 13, 14, 15, 16, 17]] mixed rfl ?_
    refine dws ?_
    refine d_pure [3] [] rfl rfl (fun _ => gp_none (st_fieldP rfl fi26_3 rfl rfl rfl)) ?_
    refine d_pureA [24] rfl rfl (fun _ => gp_none (st_loadP rfl rfl rfl on22 rfl)) ?_
    refine d_pure [1] [] rfl rfl (fun _ => gp_none (st_fieldP rfl fi33_3 rfl rfl rfl)) ?_
    refine d_pureA [26] rfl rfl (fun _ => gp_none (st_loadP rfl rfl rfl on30 rfl)) ?_
    refine d_pure [4] [] rfl rfl (fun _ => gp_none (st_move rfl rfl)) ?_
    refine d_pure [27, 28] [] rfl rfl (fun _ => gp_none (st_indexD (acc.length) rfl rfl (rfl) (getm hk1) Try.underlying30 rfl sz106 rfl)) ?_
    refine d_pure [29] [] rfl rfl (fun _ => gp_none (st_fieldFS rfl fi106_0 rfl rfl rfl)) ?_
    refine d_pure [30] [] rfl rfl (fun _ => gp_none (st_loadDS rfl rfl rw41 rfl)) ?_
    refine d_pure [1] [] rfl rfl (fun _ => gp_none (st_fieldP rfl fi33_3 rfl rfl rfl)) ?_
    refine d_pureA [32] rfl rfl (fun _ => gp_none (st_loadP rfl rfl rfl on30 rfl)) ?_
    refine d_pure [4] [] rfl rfl (fun _ => gp_none (st_move rfl rfl)) ?_
    refine d_pure [33, 34] [] rfl rfl (fun _ => gp_none (st_indexD (acc.length) rfl rfl (rfl) (getm hk1) Try.underlying30 rfl sz106 rfl)) ?_
    refine d_pure [35] [] rfl rfl (fun _ => gp_none (st_fieldF1 rfl fi106_1 rfl rfl rfl)) ?_
    refine d_pure [36] [] rfl rfl (fun _ => gp_none (st_loadD1 rfl rfl on2 rfl)) ?_
    refine d_pure [31, 37] [] rfl rfl (fun _ => gp_none (st_build zl104 pl104 rfl rfl rfl)) ?_
    refine d_eff [38] [5] [(39, _)] rfl rfl (fun _ => ge_none (st_buildSlice 5 sl22 rfl rfl rfl rfl rfl rfl rfl rfl)) (.inr ⟨39, _, rfl, rfl, rfl, rfl, rfl⟩) rfl rfl rfl rfl rfl ?_
    refine dwc 16 rfl rfl rfl ?_
    refine dw1 17 rfl rfl ?_
    refine Estep.go (st_appM (acc) ([i.po[acc.length]]) rfl rfl rfl rfl rfl rfl rfl rfl sl22 (by simp only [List.length_singleton]; omega) rfl rfl rfl rfl) ?_
    refine o_nil ⟨rfl, ?_⟩
    refine dw1 18 rfl rfl ?_
    refine Pstep.go (st_fieldP rfl fi26_3 rfl rfl rfl) ?_
    refine o_nil ⟨rfl, ?_⟩
    refine dw1 19 rfl rfl ?_
    refine Estep.go (st_storeP rfl rfl rfl rfl rfl rfl rfl sz22) ?_
    refine o_nil ⟨rfl, ?_⟩
    refine dwe ?_
    refine a_region ?_
    refine Pstep.go (st_move rfl rfl) ?_
    refine Pstep.go (st_add rfl rfl (wrapA acc i.po[acc.length] (by omega)) rfl) ?_
    refine Pstep.go (st_assign rfl rfl) ?_
    refine o_nil ?_
    exact ⟨acc ++ [i.po[acc.length]], ⟨tk_next hI hk1, by rw [List.length_append]; show acc.length + 1 ≤ _; omega⟩, by rw [List.length_append]; show i.po.length - (acc.length + 1) < i.po.length - acc.length; omega, lep_of hF [901, 1, 2, 4] rfl (rfl) ⟨rfl, rfl, rfl, rfl, trivial⟩⟩
  · refine a_exit ?_
    refine a_seq ?_
    refine a_seq ?_
    have hacc := tk_end hI (fun h => h21 (by omega))
    refine a_freezeC (ys := i.po.map postD) 4 0 3 901 rfl rfl rfl (by simp) (by rw [hacc]; exact List.take_of_length_le (by simp)) rfl rfl rfl rfl rfl rfl ?_
    refine a_adoptC 4 0 4 902 sl23 rfl rfl rfl rfl rfl rfl rfl ?_
    refine a_region ?_
    refine Pstep.go (st_assign rfl rfl) ?_
    refine o_nil ?_
    refine a_block ?_
    refine a_loopP (α := List Pay) (fun acc2 => ⟨60, [(1, (.ptr 1 0 0)), (2, (.ptr 2 0 0)), (3, (.ptr 4 0 0)), (5, (.d (intD (acc2.length : Int))))], [(902, [.rowD 109 3 (acc2.map payD)]), (1, [.blk 33 [.d (intD i.id), .d (intD i.pr), .d (intD i.sq), .d (.sl none (i.po.map postD)), .d (.sl none (i.pa.map payD)), .d (.sl none (i.af.map intD))]]), (2, [.blk 26 [.d (intD 0), .d (intD 0), .d (intD 0), nilC, nilC, nilC]]), (4, [.blk 26 [.d (intD i.id), .d (intD i.pr), .d (intD i.sq), .d (.sl none (i.po.map postD)), .own 902 0 acc2.length, .d (.sl none (i.af.map intD))]])]⟩) (fun acc2 => acc2 = i.pa.take acc2.length ∧ acc2.length ≤ i.pa.length) (fun acc2 => i.pa.length - acc2.length) ([]) (⟨by simp, Nat.zero_le _⟩) (lep_of hF [902, 1, 2, 4] rfl rfl ⟨rfl, rfl, rfl, rfl, trivial⟩) ?_
    rintro acc2 ⟨hJ, hk2⟩
    refine a_seq ?_
    refine a_seq ?_
    refine a_region ?_
    refine Pstep.go (st_move rfl rfl) ?_
    refine Pstep.go (st_fieldP rfl fi33_4 rfl rfl rfl) ?_
    refine Pstep.go (st_loadP rfl rfl rfl on31 rfl) ?_
    refine Pstep.go (st_lenMap rfl Try.underlying31 rfl) ?_
    refine Pstep.go (st_lss rfl rfl rfl) ?_
    refine o_nil ?_
    refine a_if rfl (fun h46 => ?_) (fun h46 => ?_)
    · have hk3 : acc2.length < i.pa.length := lt_cast h46
      refine a_skip ?_
      refine a_seq ?_
      refine a_block ?_
      refine a_drawn [[], [0], [], [2], [], [2, 3, 4], [2, 3, 4, 5], [2, 3, 4, 5, 6], [0, 1, 2, 3, 4, 5, 6, 7], [0, 1, 2, 3, 4, 5, 6, 7, 8], [0, 1, 2, 3, 4, 5, 6, 7, 8, 9]] mixed rfl ?_
      refine dws ?_
      refine d_pure [3] [] rfl rfl (fun _ => gp_none (st_fieldP rfl fi26_4 rfl rfl rfl)) ?_
      refine d_pureA [49] rfl rfl (fun _ => gp_none (st_loadP rfl rfl rfl on23 rfl)) ?_
      refine d_pure [1] [] rfl rfl (fun _ => gp_none (st_fieldP rfl fi33_4 rfl rfl rfl)) ?_
      refine d_pureA [51] rfl rfl (fun _ => gp_none (st_loadP rfl rfl rfl on31 rfl)) ?_
      refine d_pure [5] [] rfl rfl (fun _ => gp_none (st_move rfl rfl)) ?_
      refine d_pure [52, 53] [] rfl rfl (fun _ => gp_none (st_indexD (acc2.length) rfl rfl (rfl) (getm hk3) Try.underlying31 rfl sz108 rfl)) ?_
      refine d_pure [54] [] rfl rfl (fun _ => gp_none (st_loadDS rfl rfl rw108 rfl)) ?_
      refine d_eff [55] [6] [(56, _)] rfl rfl (fun _ => ge_none (st_buildSlice 6 sl23 rfl rfl rfl rfl rfl rfl rfl rfl)) (.inr ⟨56, _, rfl, rfl, rfl, rfl, rfl⟩) rfl rfl rfl rfl rfl ?_
      refine dwc 8 rfl rfl rfl ?_
      refine dw1 9 rfl rfl ?_
      refine Estep.go (st_appM (acc2) ([i.pa[acc2.length]]) rfl rfl rfl rfl rfl rfl rfl rfl sl23 (by simp only [List.length_singleton]; omega) rfl rfl rfl rfl) ?_
      refine o_nil ⟨rfl, ?_⟩
      refine dw1 10 rfl rfl ?_
      refine Pstep.go (st_fieldP rfl fi26_4 rfl rfl rfl) ?_
      refine o_nil ⟨rfl, ?_⟩
      refine dw1 11 rfl rfl ?_
      refine Estep.go (st_storeP rfl rfl rfl rfl rfl rfl rfl sz23) ?_
      refine o_nil ⟨rfl, ?_⟩
      refine dwe ?_
      refine a_region ?_
      refine Pstep.go (st_move rfl rfl) ?_
      refine Pstep.go (st_add rfl rfl (wrapA acc2 i.pa[acc2.length] (by omega)) rfl) ?_
      refine Pstep.go (st_assign rfl rfl) ?_
      refine o_nil ?_
      exact ⟨acc2 ++ [i.pa[acc2.length]], ⟨tk_next hJ hk3, by rw [List.length_append]; show acc2.length + 1 ≤ _; omega⟩, by rw [List.length_append]; show i.pa.length - (acc2.length + 1) < i.pa.length - acc2.length; omega, lep_of hF [902, 1, 2, 4] rfl (rfl) ⟨rfl, rfl, rfl, rfl, trivial⟩⟩
    · refine a_exit ?_
      refine a_seq ?_
      have hacc2 := tk_end hJ (fun h => h46 (by omega))
      refine a_freezeC (ys := i.pa.map payD) 4 0 4 902 rfl rfl rfl (by simp) (by rw [hacc2]; exact List.take_of_length_le (by simp)) rfl rfl rfl rfl rfl rfl ?_
      refine a_region ?_
      refine Pstep.go (st_loadPS rfl rfl rw26 rfl rfl rfl) ?_
      refine Estep.go (st_storeP rfl rfl rfl rfl rfl rfl rfl sz26) ?_
      refine o_nil ?_
      refine a_ret ?_
      exact ⟨_, [], [], res_of rfl, rfl, rfl, rfl, rfl⟩
end Go.Proofs.Ytfmpiabmnjmobaa

/- Layer 28: a problem's room. -/
namespace Go.Proofs.Ytfmpiabmnjmobaa
open Go.RowKit

end Go.Proofs.Ytfmpiabmnjmobaa

/- Layer 28: copies of items. -/
namespace Go.Proofs.Ytfmpiabmnjmobaa
open Go.RowKit

set_option maxRecDepth 100000 in
theorem cloneP_p (l : List Post) (hl : l.length ≤ 1000000) : PCalls Try.prog 98 [.d (.sl none (l.map postD))] (.sl none (l.map postD)) := by
  refine a_enter Try.func98 rfl rfl Try.ntmps98 rfl rfl rfl fun F hF => ?_
  refine a_seq ?_
  refine a_region ?_
  refine Pstep.go (st_assign rfl rfl) ?_
  refine o_anyNil 2 rfl ?_
  refine o_nil ?_
  refine a_seq ?_
  refine a_seq ?_
  refine a_region ?_
  refine Pstep.go (st_move rfl rfl) ?_
  refine o_nilSplit 3 rfl (fun h0 => ?_) ?_
  · refine Pstep.go (st_eqlN Try.underlying30 rfl rfl) ?_
    refine o_nil ?_
    refine a_true rfl (rfl) ?_
    refine a_seq ?_
    refine a_region ?_
    refine Pstep.go (st_assign rfl rfl) ?_
    refine o_anyNil 2 rfl ?_
    refine o_nil ?_
    refine a_ret ?_
    exact ⟨_, [], [], res_of rfl, rfl, rfl, by first | (rw [h0]; done) | (rw [h0]), rfl⟩
  · refine Pstep.go (st_eqlN Try.underlying30 rfl rfl) ?_
    refine o_nil ?_
    refine a_false rfl (rfl) ?_
    refine a_skip ?_
    refine a_seq ?_
    refine a_region ?_
    refine Estep.go (st_buildSlice 20 sl30 rfl rfl rfl rfl rfl rfl rfl rfl) ?_
    refine Pstep.go (st_move rfl rfl) ?_
    refine Estep.go (st_appMD (([] : List Post)) (l) rfl rfl rfl rfl rfl rfl (fun _ => rfl) sl30 (by simp only [List.length_nil]; omega) rfl rfl rfl rfl) ?_
    refine o_freezeM (emb := postD) 7 20 ([] ++ l) rfl rfl rfl rfl rfl rfl rfl ?_
    refine Pstep.go (st_assign rfl rfl) ?_
    skip
    refine o_nil ?_
    refine a_ret ?_
    exact ⟨_, [], [], res_of rfl, rfl, rfl, rfl, rfl⟩
set_option maxRecDepth 100000 in
theorem cloneY_p (l : List Pay) (hl : l.length ≤ 1000000) : PCalls Try.prog 99 [.d (.sl none (l.map payD))] (.sl none (l.map payD)) := by
  refine a_enter Try.func99 rfl rfl Try.ntmps99 rfl rfl rfl fun F hF => ?_
  refine a_seq ?_
  refine a_region ?_
  refine Pstep.go (st_assign rfl rfl) ?_
  refine o_anyNil 2 rfl ?_
  refine o_nil ?_
  refine a_seq ?_
  refine a_seq ?_
  refine a_region ?_
  refine Pstep.go (st_move rfl rfl) ?_
  refine o_nilSplit 3 rfl (fun h0 => ?_) ?_
  · refine Pstep.go (st_eqlN Try.underlying31 rfl rfl) ?_
    refine o_nil ?_
    refine a_true rfl (rfl) ?_
    refine a_seq ?_
    refine a_region ?_
    refine Pstep.go (st_assign rfl rfl) ?_
    refine o_anyNil 2 rfl ?_
    refine o_nil ?_
    refine a_ret ?_
    exact ⟨_, [], [], res_of rfl, rfl, rfl, by first | (rw [h0]; done) | (rw [h0]), rfl⟩
  · refine Pstep.go (st_eqlN Try.underlying31 rfl rfl) ?_
    refine o_nil ?_
    refine a_false rfl (rfl) ?_
    refine a_skip ?_
    refine a_seq ?_
    refine a_region ?_
    refine Estep.go (st_buildSlice 20 sl31 rfl rfl rfl rfl rfl rfl rfl rfl) ?_
    refine Pstep.go (st_move rfl rfl) ?_
    refine Estep.go (st_appMD (([] : List Pay)) (l) rfl rfl rfl rfl rfl rfl (fun _ => rfl) sl31 (by simp only [List.length_nil]; omega) rfl rfl rfl rfl) ?_
    refine o_freezeM (emb := payD) 7 20 ([] ++ l) rfl rfl rfl rfl rfl rfl rfl ?_
    refine Pstep.go (st_assign rfl rfl) ?_
    skip
    refine o_nil ?_
    refine a_ret ?_
    exact ⟨_, [], [], res_of rfl, rfl, rfl, rfl, rfl⟩
end Go.Proofs.Ytfmpiabmnjmobaa
