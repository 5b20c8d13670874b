/- The walks of the law's known and of the reference's Same. -/
import Derived.Test.YtjbghmlofjkcfaaCodL
namespace Go.Proofs.Ytjbghmlofjkcfaa
open Go.RowKit

theorem uv300 : uv 300 = [172, 2] := by rw [uv_ge (by decide), uv_lt (by decide)]; rfl
theorem uv5 : uv (zz (-3)) = [5] := by rw [show zz (-3) = 5 by decide, uv_lt (by decide)]; rfl
theorem uv2 : uv 2 = [2] := by rw [uv_lt (by decide)]; rfl
set_option maxHeartbeats 1000000 in
theorem known_p : PCalls Try.prog 11 [] (.raw (.bool true)) := by
  have c1 := wUint_900 [] 300 (by decide) (by decide)
  rw [uv300] at c1
  have c2 := wInt_900 [172, 2] (-3) (by decide) (by decide) (by decide)
  rw [uv5] at c2
  have c3 := wString_900 [172, 2, 5] [97, 98] (by decide)
  rw [show ([97, 98] : List UInt8).length = 2 by rfl, uv2] at c3
  have c4 := wBytes_900 [172, 2, 5, 2, 97, 98] (by decide)
  have c5 := newReader_p [128, 0] (by decide)
  have c6 := rUint_910 [128, 0] (0, 0) (by decide) (by decide)
  have e6 : stU [128, 0] (0, 0) = (0, 0, 3) := by decide
  rw [e6] at c6
  have c7 := rErr_910 [128, 0] (0, 3)
  refine a_enter Try.func11 rfl rfl Try.ntmps11 rfl rfl rfl fun F hF => ?_
  refine a_seq ?_
  refine a_region ?_
  refine Pstep.go (st_assign rfl rfl) ?_
  refine o_nil ?_
  refine a_seq ?_
  refine a_region ?_
  refine Estep.go (st_callD newWriter_900 rfl [900, 901] ⟨rfl, rfl, trivial⟩ rfl rfl rfl rfl rfl rfl rfl rfl rfl) ?_
  refine Pstep.go (st_assign rfl rfl) ?_
  refine o_nil ?_
  refine a_seq ?_
  refine a_region ?_
  refine Pstep.go (st_move rfl rfl) ?_
  refine Estep.go (st_callD c1 rfl [900, 901] ⟨rfl, rfl, trivial⟩ rfl rfl rfl rfl rfl rfl rfl rfl rfl) ?_
  refine o_nil ?_
  refine a_seq ?_
  refine a_region ?_
  refine Pstep.go (st_move rfl rfl) ?_
  refine Estep.go (st_callD c2 rfl [900, 901] ⟨rfl, rfl, trivial⟩ rfl rfl rfl rfl rfl rfl rfl rfl rfl) ?_
  refine o_nil ?_
  refine a_seq ?_
  refine a_region ?_
  refine Pstep.go (st_move rfl rfl) ?_
  refine Estep.go (st_callD c3 rfl [900, 901] ⟨rfl, rfl, trivial⟩ rfl rfl rfl rfl rfl rfl rfl rfl rfl) ?_
  refine o_nil ?_
  refine a_seq ?_
  refine a_seq ?_
  refine a_region ?_
  refine Pstep.go (st_move rfl rfl) ?_
  refine Estep.go (st_callD c4 rfl [900, 901, 902] ⟨rfl, rfl, rfl, trivial⟩ rfl rfl rfl rfl rfl rfl rfl rfl rfl) ?_
  refine Pstep.go (st_convBSO [172, 2, 5, 2, 97, 98] rfl rfl rfl rfl Try.underlying27 Try.underlying5 Try.underlying9 rfl) ?_
  first | refine Pstep.go (st_neq rfl rfl rfl) ?_ | refine Pstep.go (st_neqSL rfl rfl rfl) ?_ | refine Pstep.go (st_neqS rfl rfl rfl) ?_ | refine Pstep.go (st_neqB Try.underlying9 rfl rfl rfl) ?_ | refine Pstep.go (st_neqP Try.underlying9 rfl rfl rfl) ?_ | refine Pstep.go (st_neqN Try.underlying9 rfl rfl) ?_ | refine Pstep.go (st_neqF Try.underlying9 rfl rfl rfl) ?_ | refine Pstep.go (st_neqFN Try.underlying9 rfl rfl) ?_
  refine o_nil ?_
  refine a_false rfl (rfl) ?_
  refine a_skip ?_
  refine a_seq ?_
  refine a_region ?_
  refine Estep.go (st_buildSlice 1 sl27 rfl rfl rfl rfl rfl rfl rfl rfl) ?_
  refine o_freezeM (emb := byteD) 14 1 [128, 0] rfl rfl rfl rfl rfl rfl rfl ?_
  refine Estep.go (st_callD c5 rfl [910] ⟨rfl, trivial⟩ rfl rfl rfl rfl rfl rfl rfl rfl rfl) ?_
  refine Pstep.go (st_assign rfl rfl) ?_
  refine o_nil ?_
  refine a_seq ?_
  refine a_region ?_
  refine Pstep.go (st_move rfl rfl) ?_
  first | refine Pstep.go (st_neq rfl rfl rfl) ?_ | refine Pstep.go (st_neqSL rfl rfl rfl) ?_ | refine Pstep.go (st_neqS rfl rfl rfl) ?_ | refine Pstep.go (st_neqB Try.underlying39 rfl rfl rfl) ?_ | refine Pstep.go (st_neqP Try.underlying39 rfl rfl rfl) ?_ | refine Pstep.go (st_neqN Try.underlying39 rfl rfl) ?_ | refine Pstep.go (st_neqF Try.underlying39 rfl rfl rfl) ?_ | refine Pstep.go (st_neqFN Try.underlying39 rfl rfl) ?_
  refine Pstep.go (st_move rfl rfl) ?_
  refine o_setT 18 rfl (rfl) ?_
  refine o_run rfl rfl rfl ?_
  refine Pstep.go (st_move rfl rfl) ?_
  refine o_run rfl rfl rfl ?_
  refine Estep.go (st_callD c6 rfl [910] ⟨rfl, trivial⟩ rfl rfl rfl rfl rfl rfl rfl rfl rfl) ?_
  refine o_run rfl rfl rfl ?_
  first | refine Pstep.go (st_eql rfl rfl rfl) ?_ | refine Pstep.go (st_eqlSL rfl rfl rfl) ?_ | refine Pstep.go (st_eqlS rfl rfl rfl) ?_ | refine Pstep.go (st_eqlB Try.underlying29 rfl rfl rfl) ?_ | refine Pstep.go (st_eqlP Try.underlying29 rfl rfl rfl) ?_ | refine Pstep.go (st_eqlN Try.underlying29 rfl rfl) ?_ | refine Pstep.go (st_eqlF Try.underlying29 rfl rfl rfl) ?_ | refine Pstep.go (st_eqlFN Try.underlying29 rfl rfl) ?_
  refine Pstep.go (st_pickT rfl rfl rfl rfl) ?_
  refine Pstep.go (st_move rfl rfl) ?_
  refine o_setT 23 rfl (rfl) ?_
  refine o_run rfl rfl rfl ?_
  refine Pstep.go (st_move rfl rfl) ?_
  refine o_run rfl rfl rfl ?_
  refine Estep.go (st_callD c7 rfl [910] ⟨rfl, trivial⟩ rfl rfl rfl rfl rfl rfl rfl rfl rfl) ?_
  refine o_run rfl rfl rfl ?_
  first | refine Pstep.go (st_eql rfl rfl rfl) ?_ | refine Pstep.go (st_eqlSL rfl rfl rfl) ?_ | refine Pstep.go (st_eqlS rfl rfl rfl) ?_ | refine Pstep.go (st_eqlB Try.underlying38 rfl rfl rfl) ?_ | refine Pstep.go (st_eqlP Try.underlying38 rfl rfl rfl) ?_ | refine Pstep.go (st_eqlN Try.underlying38 rfl rfl) ?_ | refine Pstep.go (st_eqlF Try.underlying38 rfl rfl rfl) ?_ | refine Pstep.go (st_eqlFN Try.underlying38 rfl rfl) ?_
  refine Pstep.go (st_pickT rfl rfl rfl rfl) ?_
  refine Pstep.go (st_assign rfl rfl) ?_
  refine o_nil ?_
  refine a_ret ?_
  exact ⟨_, [], [], res_of rfl, rfl, rfl, rfl, rfl⟩
end Go.Proofs.Ytjbghmlofjkcfaa
