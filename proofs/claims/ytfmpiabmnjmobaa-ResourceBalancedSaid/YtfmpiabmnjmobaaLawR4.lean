/- Layer 28: the law of deltas. -/
import Derived.Test.YtfmpiabmnjmobaaResZ
namespace Go.Proofs.Ytfmpiabmnjmobaa
open Go.RowKit

theorem dltL_len (i : Itm) (g1 : i.po.length ≤ 1000) (g2 : i.pa.length ≤ 1000) : (dltL i).length ≤ 5000 := by
  have h1 := touL_len (ctr i)
  have h2 := ctr_length i
  have h3 := List.length_filter_le (fun x : Rsc × Int => decide (x.2 ≠ 0)) ((touL (ctr i)).map fun r => (r, ctrSum (ctr i) r))
  rw [List.length_map] at h3
  show (List.filter _ _).length ≤ _
  omega
set_option maxRecDepth 100000 in
theorem lawR4_p (i : Itm) (r : Rsc) : PCalls Try.prog 6 [.d (itmD i), .d (rscD r)] (.raw (.bool true)) := by
  have hk := known_p
  refine a_enter Try.func6 rfl rfl Try.ntmps6 rfl rfl rfl fun F hF => ?_
  refine a_seq ?_
  refine a_region ?_
  refine Estep.go (st_box 1 rfl rfl rfl rfl rfl rfl rfl) ?_
  refine Estep.go (st_box 2 rfl rfl rfl rfl rfl rfl rfl) ?_
  refine Pstep.go (st_assign rfl rfl) ?_
  refine o_nil ?_
  refine a_seq ?_
  refine a_seq ?_
  refine a_region ?_
  refine Pstep.go (st_callP (hk) rfl rfl) ?_
  first | refine Pstep.go (st_notP rfl rfl) ?_ | refine Pstep.go (st_not rfl rfl) ?_
  refine Pstep.go (st_move rfl rfl) ?_
  refine o_setF 12 rfl (rfl) ?_
  refine o_run rfl rfl rfl ?_
  first | refine Pstep.go (st_fieldP rfl fi26_3 rfl rfl rfl) ?_ | refine Pstep.go (st_fieldF1 rfl fi26_3 rfl rfl rfl) ?_ | refine Pstep.go (st_fieldFS rfl fi26_3 rfl rfl rfl) ?_ | refine Pstep.go (st_fieldR rfl fi26_3 rfl rfl rfl) ?_
  refine o_run rfl rfl rfl ?_
  first | refine Pstep.go (st_loadD1 rfl rfl on22 rfl) ?_ | refine Pstep.go (st_loadP rfl rfl rfl on22 rfl) ?_ | refine Pstep.go (st_loadR rfl rfl (rfl) rfl on22 rfl) ?_
  refine o_run rfl rfl rfl ?_
  first | refine Pstep.go (st_lenMap rfl Try.underlying22 rfl) ?_ | refine Pstep.go (st_lenD rfl rfl Try.underlying22 rfl) ?_ | refine Pstep.go (st_lenO rfl Try.underlying22 rfl) ?_ | refine Pstep.go (st_lenSL rfl Try.underlying22 rfl) ?_ | refine Pstep.go (st_lenS rfl Try.underlying22 rfl) ?_
  refine o_run rfl rfl rfl ?_
  first | refine Pstep.go (st_gtr rfl rfl rfl) ?_ | refine Pstep.go (st_gtrS rfl rfl rfl) ?_
  refine Pstep.go (st_pickF rfl rfl rfl rfl) ?_
  refine Pstep.go (st_move rfl rfl) ?_
  first | refine o_splitP 18 rfl (fun h18 => ?_) (fun h18 => ?_) | refine o_splitB 18 rfl (fun h18 => ?_) (fun h18 => ?_)
  · refine o_pass rfl rfl rfl rfl ?_
    refine o_pass rfl rfl rfl rfl ?_
    refine o_pass rfl rfl rfl rfl ?_
    refine o_pass rfl rfl rfl rfl ?_
    refine Pstep.go (st_pickT rfl rfl rfl rfl) ?_
    refine Pstep.go (st_move rfl rfl) ?_
    refine o_pass rfl rfl rfl rfl ?_
    refine o_pass rfl rfl rfl rfl ?_
    refine o_pass rfl rfl rfl rfl ?_
    refine o_pass rfl rfl rfl rfl ?_
    refine Pstep.go (st_pickT rfl rfl rfl rfl) ?_
    refine o_nil ?_
    refine a_true rfl rfl ?_
    refine a_seq ?_
    refine a_region ?_
    refine Pstep.go (st_callP (hk) rfl rfl) ?_
    refine Pstep.go (st_assign rfl rfl) ?_
    refine o_nil ?_
    refine a_ret ?_
    exact ⟨_, [], [], res_of rfl, rfl, rfl, rfl, rfl⟩
  · refine o_run rfl rfl rfl ?_
    first | refine Pstep.go (st_fieldP rfl fi26_4 rfl rfl rfl) ?_ | refine Pstep.go (st_fieldF1 rfl fi26_4 rfl rfl rfl) ?_ | refine Pstep.go (st_fieldFS rfl fi26_4 rfl rfl rfl) ?_ | refine Pstep.go (st_fieldR rfl fi26_4 rfl rfl rfl) ?_
    refine o_run rfl rfl rfl ?_
    first | refine Pstep.go (st_loadD1 rfl rfl on23 rfl) ?_ | refine Pstep.go (st_loadP rfl rfl rfl on23 rfl) ?_ | refine Pstep.go (st_loadR rfl rfl (rfl) rfl on23 rfl) ?_
    refine o_run rfl rfl rfl ?_
    first | refine Pstep.go (st_lenMap rfl Try.underlying23 rfl) ?_ | refine Pstep.go (st_lenD rfl rfl Try.underlying23 rfl) ?_ | refine Pstep.go (st_lenO rfl Try.underlying23 rfl) ?_ | refine Pstep.go (st_lenSL rfl Try.underlying23 rfl) ?_ | refine Pstep.go (st_lenS rfl Try.underlying23 rfl) ?_
    refine o_run rfl rfl rfl ?_
    first | refine Pstep.go (st_gtr rfl rfl rfl) ?_ | refine Pstep.go (st_gtrS rfl rfl rfl) ?_
    refine Pstep.go (st_pickF rfl rfl rfl rfl) ?_
    refine Pstep.go (st_move rfl rfl) ?_
    first | refine o_splitP 24 rfl (fun h24 => ?_) (fun h24 => ?_) | refine o_splitB 24 rfl (fun h24 => ?_) (fun h24 => ?_)
    · refine o_pass rfl rfl rfl rfl ?_
      refine o_pass rfl rfl rfl rfl ?_
      refine o_pass rfl rfl rfl rfl ?_
      refine o_pass rfl rfl rfl rfl ?_
      refine Pstep.go (st_pickT rfl rfl rfl rfl) ?_
      refine o_nil ?_
      refine a_true rfl rfl ?_
      refine a_seq ?_
      refine a_region ?_
      refine Pstep.go (st_callP (hk) rfl rfl) ?_
      refine Pstep.go (st_assign rfl rfl) ?_
      refine o_nil ?_
      refine a_ret ?_
      exact ⟨_, [], [], res_of rfl, rfl, rfl, rfl, rfl⟩
    · refine o_run rfl rfl rfl ?_
      first | refine Pstep.go (st_fieldP rfl fi26_5 rfl rfl rfl) ?_ | refine Pstep.go (st_fieldF1 rfl fi26_5 rfl rfl rfl) ?_ | refine Pstep.go (st_fieldFS rfl fi26_5 rfl rfl rfl) ?_ | refine Pstep.go (st_fieldR rfl fi26_5 rfl rfl rfl) ?_
      refine o_run rfl rfl rfl ?_
      first | refine Pstep.go (st_loadD1 rfl rfl on24 rfl) ?_ | refine Pstep.go (st_loadP rfl rfl rfl on24 rfl) ?_ | refine Pstep.go (st_loadR rfl rfl (rfl) rfl on24 rfl) ?_
      refine o_run rfl rfl rfl ?_
      first | refine Pstep.go (st_lenMap rfl Try.underlying24 rfl) ?_ | refine Pstep.go (st_lenD rfl rfl Try.underlying24 rfl) ?_ | refine Pstep.go (st_lenO rfl Try.underlying24 rfl) ?_ | refine Pstep.go (st_lenSL rfl Try.underlying24 rfl) ?_ | refine Pstep.go (st_lenS rfl Try.underlying24 rfl) ?_
      refine o_run rfl rfl rfl ?_
      first | refine Pstep.go (st_gtr rfl rfl rfl) ?_ | refine Pstep.go (st_gtrS rfl rfl rfl) ?_
      refine Pstep.go (st_pickF rfl rfl rfl rfl) ?_
      refine o_nil ?_
      first | refine a_if rfl (fun h29 => ?_) (fun h29 => ?_) | refine a_cond rfl (fun h29 => ?_) (fun h29 => ?_)
      · refine a_seq ?_
        refine a_region ?_
        refine Pstep.go (st_callP (hk) rfl rfl) ?_
        refine Pstep.go (st_assign rfl rfl) ?_
        refine o_nil ?_
        refine a_ret ?_
        exact ⟨_, [], [], res_of rfl, rfl, rfl, rfl, rfl⟩
      · refine a_skip ?_
        refine a_seq ?_
        refine a_region ?_
        first | refine Pstep.go (st_loadDS rfl rfl rw26 rfl) ?_ | refine Pstep.go (st_loadPS rfl rfl rw26 rfl rfl rfl) ?_ | refine Pstep.go (st_loadRS rfl rfl (rfl) rfl rw26 rfl) ?_
        refine Pstep.go (st_callP (ownitem_p i (by omega) (by omega) (by omega)) rfl rfl) ?_
        refine Pstep.go (st_callP (deltas_p i (by omega) (by omega) (by omega)) rfl rfl) ?_
        refine Pstep.go (st_move rfl rfl) ?_
        first | refine Pstep.go (st_extractD rfl rfl rfl) ?_ | refine Pstep.go (st_extract rfl rfl rfl) ?_
        first | refine Pstep.go (st_extractD rfl rfl rfl) ?_ | refine Pstep.go (st_extract rfl rfl rfl) ?_
        refine Pstep.go (st_assign rfl rfl) ?_
        refine Pstep.go (st_assign rfl rfl) ?_
        refine o_nil ?_
        refine a_seq ?_
        refine a_region ?_
        first | refine Pstep.go (st_loadDS rfl rfl rw26 rfl) ?_ | refine Pstep.go (st_loadPS rfl rfl rw26 rfl rfl rfl) ?_ | refine Pstep.go (st_loadRS rfl rfl (rfl) rfl rw26 rfl) ?_
        refine Pstep.go (st_callP (refcheck_p i (by omega) (by omega) (by omega)) rfl rfl) ?_
        refine Pstep.go (st_assign rfl rfl) ?_
        refine o_nil ?_
        refine a_seq ?_
        refine a_seq ?_
        refine a_drawn [[], [], [0, 1], [0, 1, 2], [0, 1, 2, 3], [0, 1, 2, 3, 4], [0, 1, 2, 3], [0, 1, 2, 3, 4, 5, 6], [0, 1, 2, 3, 4, 5, 6, 7], [0, 1, 2, 3], [0, 1, 2, 3], [0, 1, 2, 3, 4, 5, 6, 7, 8, 9, 10], [0, 1, 2, 3, 4, 5, 6, 7, 8, 9, 10, 11], [0, 1, 2, 3, 4, 5, 6, 7, 8, 9, 10, 11, 12]] mixed rfl ?_
        refine dws ?_
        first | refine d_pure [6] [] rfl rfl (fun _ => gp_none (st_move rfl rfl)) ?_ | refine d_pureA [6] rfl rfl (fun _ => gp_none (st_move rfl rfl)) ?_
        first | refine d_pure [7] [] rfl rfl (fun _ => gp_none (st_move rfl rfl)) ?_ | refine d_pureA [7] rfl rfl (fun _ => gp_none (st_move rfl rfl)) ?_
        refine dwc 2 rfl rfl rfl ?_
        refine dw1 3 rfl rfl ?_
        first | refine Pstep.go (st_neq rfl rfl rfl) ?_ | refine Pstep.go (st_neqSL rfl rfl rfl) ?_ | refine Pstep.go (st_neqS rfl rfl rfl) ?_ | refine Pstep.go (st_neqB Try.underlying3 rfl rfl rfl) ?_ | refine Pstep.go (st_neqP Try.underlying3 rfl rfl rfl) ?_ | refine Pstep.go (st_neqN Try.underlying3 rfl rfl) ?_ | refine Pstep.go (st_neqF Try.underlying3 rfl rfl rfl) ?_ | refine Pstep.go (st_neqFN Try.underlying3 rfl rfl) ?_
        refine o_nil ⟨rfl, ?_⟩
        refine dw1 4 rfl rfl ?_
        refine Pstep.go (st_move rfl rfl) ?_
        refine o_setF 42 rfl ((by simp)) ?_
        refine o_nil ⟨rfl, ?_⟩
        refine dws ?_
        first | refine d_pure [2, 42] [] rfl rfl (fun _ => gp_run rfl rfl rfl (st_loadDS rfl rfl rw26 rfl)) ?_ | refine d_pureA [2, 42] rfl rfl (fun _ => gp_run rfl rfl rfl (st_loadDS rfl rfl rw26 rfl)) ?_ | refine d_pure [2, 42] [] rfl rfl (fun _ => gp_run rfl rfl rfl (st_loadPS rfl rfl rw26 rfl rfl rfl)) ?_ | refine d_pureA [2, 42] rfl rfl (fun _ => gp_run rfl rfl rfl (st_loadPS rfl rfl rw26 rfl rfl rfl)) ?_ | refine d_pure [2, 42] [] rfl rfl (fun _ => gp_run rfl rfl rfl (st_loadRS rfl rfl (rfl) rfl rw26 rfl)) ?_ | refine d_pureA [2, 42] rfl rfl (fun _ => gp_run rfl rfl rfl (st_loadRS rfl rfl (rfl) rfl rw26 rfl)) ?_
        first | refine d_pure [43, 42] [] rfl rfl (fun _ => gp_run rfl rfl rfl (st_callP (ownitem_p i (by omega) (by omega) (by omega)) rfl rfl)) ?_ | refine d_pureA [43, 42] rfl rfl (fun _ => gp_run rfl rfl rfl (st_callP (ownitem_p i (by omega) (by omega) (by omega)) rfl rfl)) ?_
        first | refine d_pure [3, 42] [] rfl rfl (fun _ => gp_run rfl rfl rfl (st_loadDS rfl rfl rw48 rfl)) ?_ | refine d_pureA [3, 42] rfl rfl (fun _ => gp_run rfl rfl rfl (st_loadDS rfl rfl rw48 rfl)) ?_ | refine d_pure [3, 42] [] rfl rfl (fun _ => gp_run rfl rfl rfl (st_loadPS rfl rfl rw48 rfl rfl rfl)) ?_ | refine d_pureA [3, 42] rfl rfl (fun _ => gp_run rfl rfl rfl (st_loadPS rfl rfl rw48 rfl rfl rfl)) ?_ | refine d_pure [3, 42] [] rfl rfl (fun _ => gp_run rfl rfl rfl (st_loadRS rfl rfl (rfl) rfl rw48 rfl)) ?_ | refine d_pureA [3, 42] rfl rfl (fun _ => gp_run rfl rfl rfl (st_loadRS rfl rfl (rfl) rfl rw48 rfl)) ?_
        first | refine d_pure [45, 42] [] rfl rfl (fun _ => gp_run rfl rfl rfl (st_callP (ownres_p r) rfl rfl)) ?_ | refine d_pureA [45, 42] rfl rfl (fun _ => gp_run rfl rfl rfl (st_callP (ownres_p r) rfl rfl)) ?_
        first | refine d_pure [44, 46, 42] [] rfl rfl (fun _ => gp_run rfl rfl rfl (st_callP (delta_p i r (by omega) (by omega) (by omega)) rfl rfl)) ?_ | refine d_pureA [44, 46, 42] rfl rfl (fun _ => gp_run rfl rfl rfl (st_callP (delta_p i r (by omega) (by omega) (by omega)) rfl rfl)) ?_
        first | refine d_pure [2, 42] [] rfl rfl (fun _ => gp_run rfl rfl rfl (st_loadDS rfl rfl rw26 rfl)) ?_ | refine d_pureA [2, 42] rfl rfl (fun _ => gp_run rfl rfl rfl (st_loadDS rfl rfl rw26 rfl)) ?_ | refine d_pure [2, 42] [] rfl rfl (fun _ => gp_run rfl rfl rfl (st_loadPS rfl rfl rw26 rfl rfl rfl)) ?_ | refine d_pureA [2, 42] rfl rfl (fun _ => gp_run rfl rfl rfl (st_loadPS rfl rfl rw26 rfl rfl rfl)) ?_ | refine d_pure [2, 42] [] rfl rfl (fun _ => gp_run rfl rfl rfl (st_loadRS rfl rfl (rfl) rfl rw26 rfl)) ?_ | refine d_pureA [2, 42] rfl rfl (fun _ => gp_run rfl rfl rfl (st_loadRS rfl rfl (rfl) rfl rw26 rfl)) ?_
        first | refine d_pure [3, 42] [] rfl rfl (fun _ => gp_run rfl rfl rfl (st_loadDS rfl rfl rw48 rfl)) ?_ | refine d_pureA [3, 42] rfl rfl (fun _ => gp_run rfl rfl rfl (st_loadDS rfl rfl rw48 rfl)) ?_ | refine d_pure [3, 42] [] rfl rfl (fun _ => gp_run rfl rfl rfl (st_loadPS rfl rfl rw48 rfl rfl rfl)) ?_ | refine d_pureA [3, 42] rfl rfl (fun _ => gp_run rfl rfl rfl (st_loadPS rfl rfl rw48 rfl rfl rfl)) ?_ | refine d_pure [3, 42] [] rfl rfl (fun _ => gp_run rfl rfl rfl (st_loadRS rfl rfl (rfl) rfl rw48 rfl)) ?_ | refine d_pureA [3, 42] rfl rfl (fun _ => gp_run rfl rfl rfl (st_loadRS rfl rfl (rfl) rfl rw48 rfl)) ?_
        refine dwc 11 rfl rfl rfl ?_
        refine dw1 12 rfl rfl ?_
        refine o_run rfl rfl rfl ?_
        refine Pstep.go (st_callP (refdelta_p i r (by omega) (by omega) (by omega)) rfl rfl) ?_
        refine o_nil ⟨rfl, ?_⟩
        refine dw1 13 rfl rfl ?_
        refine o_run rfl rfl rfl ?_
        first | refine Pstep.go (st_neq rfl rfl rfl) ?_ | refine Pstep.go (st_neqSL rfl rfl rfl) ?_ | refine Pstep.go (st_neqS rfl rfl rfl) ?_ | refine Pstep.go (st_neqB Try.underlying2 rfl rfl rfl) ?_ | refine Pstep.go (st_neqP Try.underlying2 rfl rfl rfl) ?_ | refine Pstep.go (st_neqN Try.underlying2 rfl rfl) ?_ | refine Pstep.go (st_neqF Try.underlying2 rfl rfl rfl) ?_ | refine Pstep.go (st_neqFN Try.underlying2 rfl rfl) ?_
        refine o_nil ⟨rfl, ?_⟩
        refine dw1 14 rfl rfl ?_
        refine Pstep.go (st_pickF rfl rfl rfl rfl) ?_
        refine o_nil ⟨rfl, ?_⟩
        refine dwe ?_
        refine a_false rfl ((by simp)) ?_
        refine a_skip ?_
        refine a_seq ?_
        refine a_seq ?_
        refine a_region ?_
        refine Pstep.go (st_move rfl rfl) ?_
        first | refine Pstep.go (st_neq rfl rfl rfl) ?_ | refine Pstep.go (st_neqSL rfl rfl rfl) ?_ | refine Pstep.go (st_neqS rfl rfl rfl) ?_ | refine Pstep.go (st_neqB Try.underlying3 rfl rfl rfl) ?_ | refine Pstep.go (st_neqP Try.underlying3 rfl rfl rfl) ?_ | refine Pstep.go (st_neqN Try.underlying3 rfl rfl) ?_ | refine Pstep.go (st_neqF Try.underlying3 rfl rfl rfl) ?_ | refine Pstep.go (st_neqFN Try.underlying3 rfl rfl) ?_
        refine o_nil ?_
        first | refine a_if rfl (fun h54 => ?_) (fun h54 => ?_) | refine a_cond rfl (fun h54 => ?_) (fun h54 => ?_)
        · refine a_seq ?_
          refine a_region ?_
          refine Pstep.go (st_move rfl rfl) ?_
          first | refine Pstep.go (st_lenMap rfl Try.underlying37 rfl) ?_ | refine Pstep.go (st_lenD rfl rfl Try.underlying37 rfl) ?_ | refine Pstep.go (st_lenO rfl Try.underlying37 rfl) ?_ | refine Pstep.go (st_lenSL rfl Try.underlying37 rfl) ?_ | refine Pstep.go (st_lenS rfl Try.underlying37 rfl) ?_
          first | refine Pstep.go (st_eql rfl rfl rfl) ?_ | refine Pstep.go (st_eqlSL rfl rfl rfl) ?_ | refine Pstep.go (st_eqlS rfl rfl rfl) ?_ | refine Pstep.go (st_eqlB Try.underlying3 rfl rfl rfl) ?_ | refine Pstep.go (st_eqlP Try.underlying3 rfl rfl rfl) ?_ | refine Pstep.go (st_eqlN Try.underlying3 rfl rfl) ?_ | refine Pstep.go (st_eqlF Try.underlying3 rfl rfl rfl) ?_ | refine Pstep.go (st_eqlFN Try.underlying3 rfl rfl) ?_
          refine Pstep.go (st_assign rfl rfl) ?_
          refine o_nil ?_
          refine a_ret ?_
          exact ⟨_, [], [], res_of rfl, rfl, rfl, retB' (by rw [show dltS i = [] from if_neg h54]; rfl), rfl⟩
        · refine a_skip ?_
          refine a_seq ?_
          have hE : checkE i = 0 := by simpa using h54
          obtain ⟨L, hL⟩ : ∃ L, dltS i = L := ⟨_, rfl⟩
          rw [hL]
          have hLL : L = dltL i := by rw [← hL]; exact if_pos hE
          have hl5 : L.length ≤ 5000 := by rw [hLL]; exact dltL_len i (by omega) (by omega)
          refine a_region ?_
          refine Pstep.go (st_assign rfl rfl) ?_
          refine o_nil ?_
          refine a_seq ?_
          refine a_seq ?_
          refine a_adopt 8 900 sl58 rfl rfl rfl rfl ?_
          refine a_region ?_
          refine Pstep.go (st_assign rfl rfl) ?_
          refine o_nil ?_
          refine a_block ?_
          refine a_loopP (α := List (Rsc × Int)) (fun acc => ⟨83, [(2, (.ptr 1 0 0)), (5, (.d (.sl none (L.map dltD)))), (8, (.own 900 0 acc.length)), (9, (.d (intD (acc.length : Int))))], [(1, [itmB 26 i]), (900, [.rowD 61 7 (acc.map dltD)])]⟩) (fun acc => acc = L.take acc.length ∧ acc.length ≤ L.length) (fun acc => L.length - acc.length) ([]) (⟨by simp, Nat.zero_le _⟩) (lep_of hF [1, 900] rfl rfl ⟨rfl, rfl, rfl, rfl, trivial⟩) ?_
          rintro acc ⟨hI, hk0⟩
          refine a_seq ?_
          refine a_seq ?_
          refine a_region ?_
          refine Pstep.go (st_move rfl rfl) ?_
          refine Pstep.go (st_move rfl rfl) ?_
          first | refine Pstep.go (st_lenMap rfl Try.underlying37 rfl) ?_ | refine Pstep.go (st_lenD rfl rfl Try.underlying37 rfl) ?_ | refine Pstep.go (st_lenO rfl Try.underlying37 rfl) ?_ | refine Pstep.go (st_lenSL rfl Try.underlying37 rfl) ?_ | refine Pstep.go (st_lenS rfl Try.underlying37 rfl) ?_
          first | refine Pstep.go (st_lss rfl rfl rfl) ?_ | refine Pstep.go (st_lssS rfl rfl rfl) ?_
          refine o_nil ?_
          first | refine a_if rfl (fun h61 => ?_) (fun h61 => ?_) | refine a_cond rfl (fun h61 => ?_) (fun h61 => ?_)
          · have hk1 : acc.length < L.length := lt_cast h61
            refine a_skip ?_
            refine a_seq ?_
            refine a_block ?_
            refine a_drawn [[], [], [], [1, 2], [1, 2, 3], [1, 2, 3, 4], [1, 2, 3, 4, 5], [], [], [7, 8], [7, 8, 9], [7, 8, 9, 10], [1, 2, 3, 4, 5, 6, 7, 8, 9, 10, 11], [1, 2, 3, 4, 5, 6, 7, 8, 9, 10, 11, 12], [0, 1, 2, 3, 4, 5, 6, 7, 8, 9, 10, 11, 12, 13], [0, 1, 2, 3, 4, 5, 6, 7, 8, 9, 10, 11, 12, 13, 14]] mixed rfl ?_
            refine dws ?_
            first | refine d_pure [8] [] rfl rfl (fun _ => gp_none (st_move rfl rfl)) ?_ | refine d_pureA [8] rfl rfl (fun _ => gp_none (st_move rfl rfl)) ?_
            first | refine d_pure [5] [] rfl rfl (fun _ => gp_none (st_move rfl rfl)) ?_ | refine d_pureA [5] rfl rfl (fun _ => gp_none (st_move rfl rfl)) ?_
            first | refine d_pure [9] [] rfl rfl (fun _ => gp_none (st_move rfl rfl)) ?_ | refine d_pureA [9] rfl rfl (fun _ => gp_none (st_move rfl rfl)) ?_
            first | refine d_pure [65, 66] [] rfl rfl (fun _ => gp_none (st_indexD (acc.length) rfl rfl (rfl) (getm hk1) Try.underlying37 rfl sz45 rfl)) ?_ | refine d_pureA [65, 66] rfl rfl (fun _ => gp_none (st_indexD (acc.length) rfl rfl (rfl) (getm hk1) Try.underlying37 rfl sz45 rfl)) ?_ | refine d_pure [65, 66] [] rfl rfl (fun _ => gp_none (st_indexO (acc.length) rfl rfl (rfl) (getm hk1) rfl Try.underlying37 sz45 rfl)) ?_ | refine d_pureA [65, 66] rfl rfl (fun _ => gp_none (st_indexO (acc.length) rfl rfl (rfl) (getm hk1) rfl Try.underlying37 sz45 rfl)) ?_
            first | refine d_pure [67] [] rfl rfl (fun _ => gp_none (st_fieldP rfl fi45_0 rfl rfl rfl)) ?_ | refine d_pureA [67] rfl rfl (fun _ => gp_none (st_fieldP rfl fi45_0 rfl rfl rfl)) ?_ | refine d_pure [67] [] rfl rfl (fun _ => gp_none (st_fieldF1 rfl fi45_0 rfl rfl rfl)) ?_ | refine d_pureA [67] rfl rfl (fun _ => gp_none (st_fieldF1 rfl fi45_0 rfl rfl rfl)) ?_ | refine d_pure [67] [] rfl rfl (fun _ => gp_none (st_fieldFS rfl fi45_0 rfl rfl rfl)) ?_ | refine d_pureA [67] rfl rfl (fun _ => gp_none (st_fieldFS rfl fi45_0 rfl rfl rfl)) ?_ | refine d_pure [67] [] rfl rfl (fun _ => gp_none (st_fieldR rfl fi45_0 rfl rfl rfl)) ?_ | refine d_pureA [67] rfl rfl (fun _ => gp_none (st_fieldR rfl fi45_0 rfl rfl rfl)) ?_
            first | refine d_pure [68] [] rfl rfl (fun _ => gp_none (st_loadDS rfl rfl rw43 rfl)) ?_ | refine d_pureA [68] rfl rfl (fun _ => gp_none (st_loadDS rfl rfl rw43 rfl)) ?_ | refine d_pure [68] [] rfl rfl (fun _ => gp_none (st_loadPS rfl rfl rw43 rfl rfl rfl)) ?_ | refine d_pureA [68] rfl rfl (fun _ => gp_none (st_loadPS rfl rfl rw43 rfl rfl rfl)) ?_ | refine d_pure [68] [] rfl rfl (fun _ => gp_none (st_loadRS rfl rfl (rfl) rfl rw43 rfl)) ?_ | refine d_pureA [68] rfl rfl (fun _ => gp_none (st_loadRS rfl rfl (rfl) rfl rw43 rfl)) ?_
            first | refine d_pure [69] [] rfl rfl (fun _ => gp_none (st_callP (backres_p L[acc.length].1) rfl rfl)) ?_ | refine d_pureA [69] rfl rfl (fun _ => gp_none (st_callP (backres_p L[acc.length].1) rfl rfl)) ?_
            first | refine d_pure [5] [] rfl rfl (fun _ => gp_none (st_move rfl rfl)) ?_ | refine d_pureA [5] rfl rfl (fun _ => gp_none (st_move rfl rfl)) ?_
            first | refine d_pure [9] [] rfl rfl (fun _ => gp_none (st_move rfl rfl)) ?_ | refine d_pureA [9] rfl rfl (fun _ => gp_none (st_move rfl rfl)) ?_
            first | refine d_pure [71, 72] [] rfl rfl (fun _ => gp_none (st_indexD (acc.length) rfl rfl (rfl) (getm hk1) Try.underlying37 rfl sz45 rfl)) ?_ | refine d_pureA [71, 72] rfl rfl (fun _ => gp_none (st_indexD (acc.length) rfl rfl (rfl) (getm hk1) Try.underlying37 rfl sz45 rfl)) ?_ | refine d_pure [71, 72] [] rfl rfl (fun _ => gp_none (st_indexO (acc.length) rfl rfl (rfl) (getm hk1) rfl Try.underlying37 sz45 rfl)) ?_ | refine d_pureA [71, 72] rfl rfl (fun _ => gp_none (st_indexO (acc.length) rfl rfl (rfl) (getm hk1) rfl Try.underlying37 sz45 rfl)) ?_
            first | refine d_pure [73] [] rfl rfl (fun _ => gp_none (st_fieldP rfl fi45_1 rfl rfl rfl)) ?_ | refine d_pureA [73] rfl rfl (fun _ => gp_none (st_fieldP rfl fi45_1 rfl rfl rfl)) ?_ | refine d_pure [73] [] rfl rfl (fun _ => gp_none (st_fieldF1 rfl fi45_1 rfl rfl rfl)) ?_ | refine d_pureA [73] rfl rfl (fun _ => gp_none (st_fieldF1 rfl fi45_1 rfl rfl rfl)) ?_ | refine d_pure [73] [] rfl rfl (fun _ => gp_none (st_fieldFS rfl fi45_1 rfl rfl rfl)) ?_ | refine d_pureA [73] rfl rfl (fun _ => gp_none (st_fieldFS rfl fi45_1 rfl rfl rfl)) ?_ | refine d_pure [73] [] rfl rfl (fun _ => gp_none (st_fieldR rfl fi45_1 rfl rfl rfl)) ?_ | refine d_pureA [73] rfl rfl (fun _ => gp_none (st_fieldR rfl fi45_1 rfl rfl rfl)) ?_
            first | refine d_pure [74] [] rfl rfl (fun _ => gp_none (st_loadD1 rfl rfl on2 rfl)) ?_ | refine d_pureA [74] rfl rfl (fun _ => gp_none (st_loadD1 rfl rfl on2 rfl)) ?_ | refine d_pure [74] [] rfl rfl (fun _ => gp_none (st_loadP rfl rfl rfl on2 rfl)) ?_ | refine d_pureA [74] rfl rfl (fun _ => gp_none (st_loadP rfl rfl rfl on2 rfl)) ?_ | refine d_pure [74] [] rfl rfl (fun _ => gp_none (st_loadR rfl rfl (rfl) rfl on2 rfl)) ?_ | refine d_pureA [74] rfl rfl (fun _ => gp_none (st_loadR rfl rfl (rfl) rfl on2 rfl)) ?_
            first | refine d_pure [70, 75] [] rfl rfl (fun _ => gp_none (st_build zl61 pl61 rfl rfl rfl)) ?_ | refine d_pureA [70, 75] rfl rfl (fun _ => gp_none (st_build zl61 pl61 rfl rfl rfl)) ?_
            refine d_eff [76] [50] [(77, _)] rfl rfl (fun _ => ge_none (st_buildSlice 50 sl58 rfl rfl rfl rfl rfl rfl rfl rfl)) (.inr ⟨77, _, rfl, rfl, rfl, rfl, rfl⟩) rfl rfl rfl rfl rfl ?_
            refine dwc 14 rfl rfl rfl ?_
            refine dw1 15 rfl rfl ?_
            first | refine Estep.go (st_appM (acc) ([L[acc.length]]) rfl rfl rfl rfl rfl rfl rfl rfl sl58 (by simp only [List.length_singleton]; omega) rfl rfl rfl rfl) ?_ | refine Estep.go (st_appMD (acc) ([L[acc.length]]) rfl rfl rfl rfl rfl rfl (fun _ => rfl) sl58 (by simp only [List.length_singleton]; omega) rfl rfl rfl rfl) ?_
            refine o_nil ⟨rfl, ?_⟩
            refine dw1 16 rfl rfl ?_
            refine Pstep.go (st_assign rfl rfl) ?_
            refine o_nil ⟨rfl, ?_⟩
            refine dwe ?_
            refine a_region ?_
            refine Pstep.go (st_move rfl rfl) ?_
            refine Pstep.go (st_add rfl rfl (wrapA acc L[acc.length] (by omega)) rfl) ?_
            refine Pstep.go (st_assign rfl rfl) ?_
            refine o_nil ?_
            exact ⟨acc ++ [L[acc.length]], ⟨tk_next hI hk1, by rw [List.length_append]; show acc.length + 1 ≤ _; omega⟩, by rw [List.length_append]; show L.length - (acc.length + 1) < L.length - acc.length; omega, lep_of hF [1, 900] rfl (rfl) ⟨rfl, rfl, rfl, rfl, trivial⟩⟩
          · refine a_exit ?_
            refine a_seq ?_
            have hacc := tk_end hI (fun h => h61 (by omega))
            have hrd := refdeltas_p i hE
            rw [← hLL, ← hacc] at hrd
            refine a_freezeM (emb := dltD) 8 900 acc rfl rfl rfl rfl rfl rfl rfl ?_
            refine a_region ?_
            refine Pstep.go (st_move rfl rfl) ?_
            first | refine Pstep.go (st_loadDS rfl rfl rw26 rfl) ?_ | refine Pstep.go (st_loadPS rfl rfl rw26 rfl rfl rfl) ?_ | refine Pstep.go (st_loadRS rfl rfl (rfl) rfl rw26 rfl) ?_
            refine Pstep.go (st_callP (hrd) rfl rfl) ?_
            refine Pstep.go (st_callP (sameD_p acc (by omega)) rfl rfl) ?_
            refine Pstep.go (st_assign rfl rfl) ?_
            refine o_nil ?_
            refine a_ret ?_
            exact ⟨_, [], [], res_of rfl, rfl, rfl, rfl, rfl⟩
end Go.Proofs.Ytfmpiabmnjmobaa
