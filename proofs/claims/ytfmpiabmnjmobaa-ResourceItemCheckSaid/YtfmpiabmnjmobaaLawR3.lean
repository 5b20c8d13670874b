/- Layer 28: the law of items' checks. -/
import Derived.Test.YtfmpiabmnjmobaaRes5
namespace Go.Proofs.Ytfmpiabmnjmobaa
open Go.RowKit

set_option maxRecDepth 100000 in
theorem lawR3_p (i : Itm) : PCalls Try.prog 3 [.d (itmD i)] (.raw (.bool true)) := by
  have hk := known_p
  by_cases hf : i.po.length ≤ 300 ∧ i.pa.length ≤ 300 ∧ i.af.length ≤ 300
  · have hfew := few_p i
    rw [decide_eq_true hf] at hfew
    have c1 := check_p i (by omega) (by omega) (by omega)
    have c2 := refcheck_p i (by omega) (by omega) (by omega)
    have c3 := ownitem_p i (by omega) (by omega) (by omega)
    refine a_enter Try.func3 rfl rfl Try.ntmps3 rfl rfl rfl fun F hF => ?_
    refine a_seq ?_
    refine a_region ?_
    refine Estep.go (st_box 1 rfl rfl rfl rfl rfl rfl rfl) ?_
    refine Pstep.go (st_assign rfl rfl) ?_
    refine o_nil ?_
    refine a_seq ?_
    refine a_seq ?_
    refine a_region ?_
    refine Pstep.go (st_callP (hk) rfl rfl) ?_
    first | refine Pstep.go (st_notP rfl rfl) ?_ | refine Pstep.go (st_not rfl rfl) ?_
    refine Pstep.go (st_move rfl rfl) ?_
    refine o_setF 5 rfl (rfl) ?_
    refine o_run rfl rfl rfl ?_
    first | refine Pstep.go (st_loadDS rfl rfl rw26 rfl) ?_ | refine Pstep.go (st_loadPS rfl rfl rw26 rfl rfl rfl) ?_ | refine Pstep.go (st_loadRS rfl rfl (rfl) rfl rw26 rfl) ?_
    refine o_run rfl rfl rfl ?_
    refine Pstep.go (st_callP (hfew) rfl rfl) ?_
    refine o_run rfl rfl rfl ?_
    first | refine Pstep.go (st_notP rfl rfl) ?_ | refine Pstep.go (st_not rfl rfl) ?_
    refine Pstep.go (st_pickF rfl rfl rfl rfl) ?_
    refine o_nil ?_
    refine a_false rfl (rfl) ?_
    refine a_skip ?_
    refine a_seq ?_
    refine a_drawn [[], [0], [0, 1], [], [0, 1, 2, 3], [0, 1, 2, 3, 4], [0, 1, 2, 3, 4, 5]] mixed rfl ?_
    refine dws ?_
    first | refine d_pure [1] [] rfl rfl (fun _ => gp_none (st_loadDS rfl rfl rw26 rfl)) ?_ | refine d_pureA [1] rfl rfl (fun _ => gp_none (st_loadDS rfl rfl rw26 rfl)) ?_ | refine d_pure [1] [] rfl rfl (fun _ => gp_none (st_loadPS rfl rfl rw26 rfl rfl rfl)) ?_ | refine d_pureA [1] rfl rfl (fun _ => gp_none (st_loadPS rfl rfl rw26 rfl rfl rfl)) ?_ | refine d_pure [1] [] rfl rfl (fun _ => gp_none (st_loadRS rfl rfl (rfl) rfl rw26 rfl)) ?_ | refine d_pureA [1] rfl rfl (fun _ => gp_none (st_loadRS rfl rfl (rfl) rfl rw26 rfl)) ?_
    first | refine d_pure [11] [] rfl rfl (fun _ => gp_none (st_callP (c3) rfl rfl)) ?_ | refine d_pureA [11] rfl rfl (fun _ => gp_none (st_callP (c3) rfl rfl)) ?_
    first | refine d_pure [12] [] rfl rfl (fun _ => gp_none (st_callP (c1) rfl rfl)) ?_ | refine d_pureA [12] rfl rfl (fun _ => gp_none (st_callP (c1) rfl rfl)) ?_
    first | refine d_pure [1] [] rfl rfl (fun _ => gp_none (st_loadDS rfl rfl rw26 rfl)) ?_ | refine d_pureA [1] rfl rfl (fun _ => gp_none (st_loadDS rfl rfl rw26 rfl)) ?_ | refine d_pure [1] [] rfl rfl (fun _ => gp_none (st_loadPS rfl rfl rw26 rfl rfl rfl)) ?_ | refine d_pureA [1] rfl rfl (fun _ => gp_none (st_loadPS rfl rfl rw26 rfl rfl rfl)) ?_ | refine d_pure [1] [] rfl rfl (fun _ => gp_none (st_loadRS rfl rfl (rfl) rfl rw26 rfl)) ?_ | refine d_pureA [1] rfl rfl (fun _ => gp_none (st_loadRS rfl rfl (rfl) rfl rw26 rfl)) ?_
    refine dwc 4 rfl rfl rfl ?_
    refine dw1 5 rfl rfl ?_
    refine Pstep.go (st_callP (c2) rfl rfl) ?_
    refine o_nil ⟨rfl, ?_⟩
    refine dw1 6 rfl rfl ?_
    first | refine Pstep.go (st_eql rfl rfl rfl) ?_ | refine Pstep.go (st_eqlSL rfl rfl rfl) ?_ | refine Pstep.go (st_eqlS rfl rfl rfl) ?_ | refine Pstep.go (st_eqlB Try.underlying3 rfl rfl rfl) ?_ | refine Pstep.go (st_eqlP Try.underlying3 rfl rfl rfl) ?_ | refine Pstep.go (st_eqlN Try.underlying3 rfl rfl) ?_ | refine Pstep.go (st_eqlF Try.underlying3 rfl rfl rfl) ?_ | refine Pstep.go (st_eqlFN Try.underlying3 rfl rfl) ?_
    refine o_nil ⟨rfl, ?_⟩
    refine dw1 7 rfl rfl ?_
    refine Pstep.go (st_assign rfl rfl) ?_
    refine o_nil ⟨rfl, ?_⟩
    refine dwe ?_
    refine a_ret ?_
    exact ⟨_, [], [], res_of rfl, rfl, rfl, by simp, rfl⟩
  · have hfew := few_p i
    rw [decide_eq_false hf] at hfew
    refine a_enter Try.func3 rfl rfl Try.ntmps3 rfl rfl rfl fun F hF => ?_
    refine a_seq ?_
    refine a_region ?_
    refine Estep.go (st_box 1 rfl rfl rfl rfl rfl rfl rfl) ?_
    refine Pstep.go (st_assign rfl rfl) ?_
    refine o_nil ?_
    refine a_seq ?_
    refine a_seq ?_
    refine a_region ?_
    refine Pstep.go (st_callP (hk) rfl rfl) ?_
    first | refine Pstep.go (st_notP rfl rfl) ?_ | refine Pstep.go (st_not rfl rfl) ?_
    refine Pstep.go (st_move rfl rfl) ?_
    refine o_setF 5 rfl (rfl) ?_
    refine o_run rfl rfl rfl ?_
    first | refine Pstep.go (st_loadDS rfl rfl rw26 rfl) ?_ | refine Pstep.go (st_loadPS rfl rfl rw26 rfl rfl rfl) ?_ | refine Pstep.go (st_loadRS rfl rfl (rfl) rfl rw26 rfl) ?_
    refine o_run rfl rfl rfl ?_
    refine Pstep.go (st_callP (hfew) rfl rfl) ?_
    refine o_run rfl rfl rfl ?_
    first | refine Pstep.go (st_notP rfl rfl) ?_ | refine Pstep.go (st_not rfl rfl) ?_
    refine Pstep.go (st_pickF rfl rfl rfl rfl) ?_
    refine o_nil ?_
    refine a_true rfl (rfl) ?_
    refine a_seq ?_
    refine a_region ?_
    refine Pstep.go (st_callP (hk) rfl rfl) ?_
    refine Pstep.go (st_assign rfl rfl) ?_
    refine o_nil ?_
    refine a_ret ?_
    exact ⟨_, [], [], res_of rfl, rfl, rfl, rfl, rfl⟩
end Go.Proofs.Ytfmpiabmnjmobaa
