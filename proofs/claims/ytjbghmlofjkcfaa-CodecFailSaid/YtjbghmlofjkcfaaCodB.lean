/- The walks of the Reader's functions over a reader that bears an error. -/
import Derived.Test.YtjbghmlofjkcfaaCodZ
namespace Go.Proofs.Ytjbghmlofjkcfaa
open Go.RowKit

/-- A reader with whatever number for its error. -/
abbrev rI (b : List UInt8) (at_ : Nat) (e : Int) : Hp := [(910, [.blk 65 [.d (bytesD b), .d (.raw (.int .i64 (at_ : Int))), .d (.raw (.int .i64 e))]])]
theorem valueU_bad (g : FuncId) (b : List UInt8) (at_ : Nat) (e : Int) (he : ¬ e = 0) : ACalls Try.prog 45 [.ptr 910 0 0, .d (fnD g)] (rI b at_ e) fun r H' => r = .d (.raw (.int .u64 0)) ∧ H' = rI b at_ e := by
  refine a_enter Try.func45 rfl rfl Try.ntmps45 rfl rfl rfl fun F hF => ?_
  refine a_seq ?_
  refine a_region ?_
  refine Pstep.go (st_assign rfl rfl) ?_
  refine o_nil ?_
  refine a_seq ?_
  refine a_region ?_
  refine Pstep.go (st_assign rfl rfl) ?_
  refine o_nil ?_
  refine a_seq ?_
  refine a_seq ?_
  refine a_region ?_
  refine Pstep.go (st_move rfl rfl) ?_
  first | refine Pstep.go (st_eql rfl rfl rfl) ?_ | refine Pstep.go (st_eqlSL rfl rfl rfl) ?_ | refine Pstep.go (st_eqlS rfl rfl rfl) ?_ | refine Pstep.go (st_eqlB Try.underlying39 rfl rfl rfl) ?_ | refine Pstep.go (st_eqlP Try.underlying39 rfl rfl rfl) ?_ | refine Pstep.go (st_eqlN Try.underlying39 rfl rfl) ?_ | refine Pstep.go (st_eqlF Try.underlying39 rfl rfl rfl) ?_ | refine Pstep.go (st_eqlFN Try.underlying39 rfl rfl) ?_
  refine Pstep.go (st_move rfl rfl) ?_
  refine o_setF 11 rfl (rfl) ?_
  refine o_run rfl rfl rfl ?_
  refine Pstep.go (st_move rfl rfl) ?_
  refine o_run rfl rfl rfl ?_
  first | refine Pstep.go (st_nilCheckP rfl rfl) ?_ | refine Pstep.go (st_nilCheckD rfl rfl) ?_ | refine Pstep.go (st_nilCheckR rfl rfl) ?_
  refine o_run rfl rfl rfl ?_
  first | refine Pstep.go (st_fieldP rfl fi65_2 rfl rfl rfl) ?_ | refine Pstep.go (st_fieldF1 rfl fi65_2 rfl rfl rfl) ?_ | refine Pstep.go (st_fieldFS rfl fi65_2 rfl rfl rfl) ?_ | refine Pstep.go (st_fieldR rfl fi65_2 rfl rfl rfl) ?_
  refine o_run rfl rfl rfl ?_
  first | refine Pstep.go (st_loadD1 rfl rfl on38 rfl) ?_ | refine Pstep.go (st_loadP rfl rfl rfl on38 rfl) ?_ | refine Pstep.go (st_loadR rfl rfl (rfl) rfl on38 rfl) ?_
  refine o_run rfl rfl rfl ?_
  first | refine Pstep.go (st_neq rfl rfl rfl) ?_ | refine Pstep.go (st_neqSL rfl rfl rfl) ?_ | refine Pstep.go (st_neqS rfl rfl rfl) ?_ | refine Pstep.go (st_neqB Try.underlying38 rfl rfl rfl) ?_ | refine Pstep.go (st_neqP Try.underlying38 rfl rfl rfl) ?_ | refine Pstep.go (st_neqN Try.underlying38 rfl rfl) ?_ | refine Pstep.go (st_neqF Try.underlying38 rfl rfl rfl) ?_ | refine Pstep.go (st_neqFN Try.underlying38 rfl rfl) ?_
  refine Pstep.go (st_pickF rfl rfl rfl rfl) ?_
  refine o_nil ?_
  refine a_true rfl (by simp [he]) ?_
  refine a_seq ?_
  refine a_region ?_
  refine Pstep.go (st_move rfl rfl) ?_
  refine Pstep.go (st_assign rfl rfl) ?_
  refine o_nil ?_
  refine a_ret ?_
  exact ⟨_, [910], _, res_of rfl, rfl, rfl, rfl, rfl⟩
theorem valueB_bad (g : FuncId) (b : List UInt8) (at_ : Nat) (e : Int) (he : ¬ e = 0) : ACalls Try.prog 47 [.ptr 910 0 0, .d (fnD g)] (rI b at_ e) fun r H' => r = .d (.raw (.bool false)) ∧ H' = rI b at_ e := by
  refine a_enter Try.func47 rfl rfl Try.ntmps47 rfl rfl rfl fun F hF => ?_
  refine a_seq ?_
  refine a_region ?_
  refine Pstep.go (st_assign rfl rfl) ?_
  refine o_nil ?_
  refine a_seq ?_
  refine a_region ?_
  refine Pstep.go (st_assign rfl rfl) ?_
  refine o_nil ?_
  refine a_seq ?_
  refine a_seq ?_
  refine a_region ?_
  refine Pstep.go (st_move rfl rfl) ?_
  first | refine Pstep.go (st_eql rfl rfl rfl) ?_ | refine Pstep.go (st_eqlSL rfl rfl rfl) ?_ | refine Pstep.go (st_eqlS rfl rfl rfl) ?_ | refine Pstep.go (st_eqlB Try.underlying39 rfl rfl rfl) ?_ | refine Pstep.go (st_eqlP Try.underlying39 rfl rfl rfl) ?_ | refine Pstep.go (st_eqlN Try.underlying39 rfl rfl) ?_ | refine Pstep.go (st_eqlF Try.underlying39 rfl rfl rfl) ?_ | refine Pstep.go (st_eqlFN Try.underlying39 rfl rfl) ?_
  refine Pstep.go (st_move rfl rfl) ?_
  refine o_setF 11 rfl (rfl) ?_
  refine o_run rfl rfl rfl ?_
  refine Pstep.go (st_move rfl rfl) ?_
  refine o_run rfl rfl rfl ?_
  first | refine Pstep.go (st_nilCheckP rfl rfl) ?_ | refine Pstep.go (st_nilCheckD rfl rfl) ?_ | refine Pstep.go (st_nilCheckR rfl rfl) ?_
  refine o_run rfl rfl rfl ?_
  first | refine Pstep.go (st_fieldP rfl fi65_2 rfl rfl rfl) ?_ | refine Pstep.go (st_fieldF1 rfl fi65_2 rfl rfl rfl) ?_ | refine Pstep.go (st_fieldFS rfl fi65_2 rfl rfl rfl) ?_ | refine Pstep.go (st_fieldR rfl fi65_2 rfl rfl rfl) ?_
  refine o_run rfl rfl rfl ?_
  first | refine Pstep.go (st_loadD1 rfl rfl on38 rfl) ?_ | refine Pstep.go (st_loadP rfl rfl rfl on38 rfl) ?_ | refine Pstep.go (st_loadR rfl rfl (rfl) rfl on38 rfl) ?_
  refine o_run rfl rfl rfl ?_
  first | refine Pstep.go (st_neq rfl rfl rfl) ?_ | refine Pstep.go (st_neqSL rfl rfl rfl) ?_ | refine Pstep.go (st_neqS rfl rfl rfl) ?_ | refine Pstep.go (st_neqB Try.underlying38 rfl rfl rfl) ?_ | refine Pstep.go (st_neqP Try.underlying38 rfl rfl rfl) ?_ | refine Pstep.go (st_neqN Try.underlying38 rfl rfl) ?_ | refine Pstep.go (st_neqF Try.underlying38 rfl rfl rfl) ?_ | refine Pstep.go (st_neqFN Try.underlying38 rfl rfl) ?_
  refine Pstep.go (st_pickF rfl rfl rfl rfl) ?_
  refine o_nil ?_
  refine a_true rfl (by simp [he]) ?_
  refine a_seq ?_
  refine a_region ?_
  refine Pstep.go (st_move rfl rfl) ?_
  refine Pstep.go (st_assign rfl rfl) ?_
  refine o_nil ?_
  refine a_ret ?_
  exact ⟨_, [910], _, res_of rfl, rfl, rfl, rfl, rfl⟩
theorem valueS_bad (g : FuncId) (b : List UInt8) (at_ : Nat) (e : Int) (he : ¬ e = 0) : ACalls Try.prog 49 [.ptr 910 0 0, .d (fnD g)] (rI b at_ e) fun r H' => r = .d (bytesD []) ∧ H' = rI b at_ e := by
  refine a_enter Try.func49 rfl rfl Try.ntmps49 rfl rfl rfl fun F hF => ?_
  refine a_seq ?_
  refine a_region ?_
  refine Pstep.go (st_assign rfl rfl) ?_
  refine o_nil ?_
  refine a_seq ?_
  refine a_region ?_
  refine Pstep.go (st_assign rfl rfl) ?_
  refine o_anyNil 5 rfl ?_
  refine o_nil ?_
  refine a_seq ?_
  refine a_seq ?_
  refine a_region ?_
  refine Pstep.go (st_move rfl rfl) ?_
  first | refine Pstep.go (st_eql rfl rfl rfl) ?_ | refine Pstep.go (st_eqlSL rfl rfl rfl) ?_ | refine Pstep.go (st_eqlS rfl rfl rfl) ?_ | refine Pstep.go (st_eqlB Try.underlying39 rfl rfl rfl) ?_ | refine Pstep.go (st_eqlP Try.underlying39 rfl rfl rfl) ?_ | refine Pstep.go (st_eqlN Try.underlying39 rfl rfl) ?_ | refine Pstep.go (st_eqlF Try.underlying39 rfl rfl rfl) ?_ | refine Pstep.go (st_eqlFN Try.underlying39 rfl rfl) ?_
  refine Pstep.go (st_move rfl rfl) ?_
  refine o_setF 11 rfl (rfl) ?_
  refine o_run rfl rfl rfl ?_
  refine Pstep.go (st_move rfl rfl) ?_
  refine o_run rfl rfl rfl ?_
  first | refine Pstep.go (st_nilCheckP rfl rfl) ?_ | refine Pstep.go (st_nilCheckD rfl rfl) ?_ | refine Pstep.go (st_nilCheckR rfl rfl) ?_
  refine o_run rfl rfl rfl ?_
  first | refine Pstep.go (st_fieldP rfl fi65_2 rfl rfl rfl) ?_ | refine Pstep.go (st_fieldF1 rfl fi65_2 rfl rfl rfl) ?_ | refine Pstep.go (st_fieldFS rfl fi65_2 rfl rfl rfl) ?_ | refine Pstep.go (st_fieldR rfl fi65_2 rfl rfl rfl) ?_
  refine o_run rfl rfl rfl ?_
  first | refine Pstep.go (st_loadD1 rfl rfl on38 rfl) ?_ | refine Pstep.go (st_loadP rfl rfl rfl on38 rfl) ?_ | refine Pstep.go (st_loadR rfl rfl (rfl) rfl on38 rfl) ?_
  refine o_run rfl rfl rfl ?_
  first | refine Pstep.go (st_neq rfl rfl rfl) ?_ | refine Pstep.go (st_neqSL rfl rfl rfl) ?_ | refine Pstep.go (st_neqS rfl rfl rfl) ?_ | refine Pstep.go (st_neqB Try.underlying38 rfl rfl rfl) ?_ | refine Pstep.go (st_neqP Try.underlying38 rfl rfl rfl) ?_ | refine Pstep.go (st_neqN Try.underlying38 rfl rfl) ?_ | refine Pstep.go (st_neqF Try.underlying38 rfl rfl rfl) ?_ | refine Pstep.go (st_neqFN Try.underlying38 rfl rfl) ?_
  refine Pstep.go (st_pickF rfl rfl rfl rfl) ?_
  refine o_nil ?_
  refine a_true rfl (by simp [he]) ?_
  refine a_seq ?_
  refine a_region ?_
  refine Pstep.go (st_move rfl rfl) ?_
  refine Pstep.go (st_assign rfl rfl) ?_
  refine o_nil ?_
  refine a_ret ?_
  exact ⟨_, [910], _, res_of rfl, rfl, rfl, rfl, rfl⟩
theorem rInt_bad (b : List UInt8) (at_ : Nat) (e : Int) (he : ¬ e = 0) : ACalls Try.prog 28 [.ptr 910 0 0] (rI b at_ e) fun r H' => r = .d (.raw (.int .i64 0)) ∧ H' = rI b at_ e := by
  have hu : ACalls Try.prog 20 [.ptr 910 0 0] (rI b at_ e) fun r H' => r = .d (.raw (.int .u64 0)) ∧ H' = rI b at_ e := by
    have hv := valueU_bad 46 b at_ e he
    refine a_enter Try.func20 rfl rfl Try.ntmps20 rfl rfl rfl fun F hF => ?_
    refine a_seq ?_
    refine a_region ?_
    refine Pstep.go (st_assign rfl rfl) ?_
    refine o_nil ?_
    refine a_seq ?_
    refine a_region ?_
    refine Pstep.go (st_move rfl rfl) ?_
    refine Estep.go (st_callD hv rfl [910] ⟨rfl, trivial⟩ rfl rfl rfl rfl rfl rfl rfl rfl rfl) ?_
    refine Pstep.go (st_assign rfl rfl) ?_
    refine o_nil ?_
    refine a_ret ?_
    exact ⟨_, [910], _, res_of rfl, rfl, rfl, rfl, rfl⟩
  refine a_enter Try.func28 rfl rfl Try.ntmps28 rfl rfl rfl fun F hF => ?_
  refine a_seq ?_
  refine a_region ?_
  refine Pstep.go (st_assign rfl rfl) ?_
  refine o_nil ?_
  refine a_seq ?_
  refine a_region ?_
  refine Pstep.go (st_move rfl rfl) ?_
  refine Estep.go (st_callD hu rfl [910] ⟨rfl, trivial⟩ rfl rfl rfl rfl rfl rfl rfl rfl rfl) ?_
  refine Pstep.go (st_assign rfl rfl) ?_
  refine o_nil ?_
  refine a_seq ?_
  refine a_region ?_
  refine Pstep.go (st_move rfl rfl) ?_
  refine Pstep.go (st_shr rfl rfl (by omega) (rfl) rfl) ?_
  refine Pstep.go (st_conv rfl Try.underlying29 Try.underlying2 (rfl) rfl) ?_
  refine Pstep.go (st_move rfl rfl) ?_
  refine Pstep.go (st_bits rfl rfl rfl (rfl) rfl) ?_
  refine Pstep.go (st_conv rfl Try.underlying29 Try.underlying2 (rfl) rfl) ?_
  refine Pstep.go (st_neg rfl (rfl) rfl) ?_
  refine Pstep.go (st_bits rfl rfl rfl (rfl) rfl) ?_
  refine Pstep.go (st_assign rfl rfl) ?_
  refine o_nil ?_
  refine a_ret ?_
  exact ⟨_, [910], _, res_of rfl, rfl, rfl, rfl, rfl⟩
theorem rBool_bad (b : List UInt8) (at_ : Nat) (e : Int) (he : ¬ e = 0) : ACalls Try.prog 25 [.ptr 910 0 0] (rI b at_ e) fun r H' => r = .d (.raw (.bool false)) ∧ H' = rI b at_ e := by
  have hv := valueB_bad 48 b at_ e he
  refine a_enter Try.func25 rfl rfl Try.ntmps25 rfl rfl rfl fun F hF => ?_
  refine a_seq ?_
  refine a_region ?_
  refine Pstep.go (st_assign rfl rfl) ?_
  refine o_nil ?_
  refine a_seq ?_
  refine a_region ?_
  refine Pstep.go (st_move rfl rfl) ?_
  refine Estep.go (st_callD hv rfl [910] ⟨rfl, trivial⟩ rfl rfl rfl rfl rfl rfl rfl rfl rfl) ?_
  refine Pstep.go (st_assign rfl rfl) ?_
  refine o_nil ?_
  refine a_ret ?_
  exact ⟨_, [910], _, res_of rfl, rfl, rfl, rfl, rfl⟩
theorem rBlob_bad (b : List UInt8) (at_ : Nat) (e : Int) (he : ¬ e = 0) : ACalls Try.prog 27 [.ptr 910 0 0] (rI b at_ e) fun r H' => r = .d (bytesD []) ∧ H' = rI b at_ e := by
  have hv := valueS_bad 50 b at_ e he
  refine a_enter Try.func27 rfl rfl Try.ntmps27 rfl rfl rfl fun F hF => ?_
  refine a_seq ?_
  refine a_region ?_
  refine Pstep.go (st_assign rfl rfl) ?_
  refine o_nil ?_
  refine a_seq ?_
  refine a_region ?_
  refine Pstep.go (st_move rfl rfl) ?_
  refine Estep.go (st_callD hv rfl [910] ⟨rfl, trivial⟩ rfl rfl rfl rfl rfl rfl rfl rfl rfl) ?_
  refine Pstep.go (st_assign rfl rfl) ?_
  refine o_nil ?_
  refine a_ret ?_
  exact ⟨_, [910], _, res_of rfl, rfl, rfl, rfl, rfl⟩
theorem rString_bad (b : List UInt8) (at_ : Nat) (e : Int) (he : ¬ e = 0) : ACalls Try.prog 26 [.ptr 910 0 0] (rI b at_ e) fun r H' => r = .d (strD []) ∧ H' = rI b at_ e := by
  have hv := rBlob_bad b at_ e he
  refine a_enter Try.func26 rfl rfl Try.ntmps26 rfl rfl rfl fun F hF => ?_
  refine a_seq ?_
  refine a_region ?_
  refine Pstep.go (st_assign rfl rfl) ?_
  refine o_nil ?_
  refine a_seq ?_
  refine a_region ?_
  refine Pstep.go (st_move rfl rfl) ?_
  refine Estep.go (st_callD hv rfl [910] ⟨rfl, trivial⟩ rfl rfl rfl rfl rfl rfl rfl rfl rfl) ?_
  refine Pstep.go (st_convBS [] rfl rfl Try.underlying27 Try.underlying5 Try.underlying9 rfl) ?_
  refine Pstep.go (st_assign rfl rfl) ?_
  refine o_nil ?_
  refine a_ret ?_
  exact ⟨_, [910], _, res_of rfl, rfl, rfl, rfl, rfl⟩
theorem rErr_i (b : List UInt8) (at_ : Nat) (e : Int) : ACalls Try.prog 22 [.ptr 910 0 0] (rI b at_ e) fun r H' => r = .d (.raw (.int .i64 e)) ∧ H' = rI b at_ e := by
  refine a_enter Try.func22 rfl rfl Try.ntmps22 rfl rfl rfl fun F hF => ?_
  refine a_seq ?_
  refine a_region ?_
  refine Pstep.go (st_assign rfl rfl) ?_
  refine o_nil ?_
  refine a_seq ?_
  refine a_seq ?_
  refine a_region ?_
  refine Pstep.go (st_move rfl rfl) ?_
  first | refine Pstep.go (st_eql rfl rfl rfl) ?_ | refine Pstep.go (st_eqlSL rfl rfl rfl) ?_ | refine Pstep.go (st_eqlS rfl rfl rfl) ?_ | refine Pstep.go (st_eqlB Try.underlying39 rfl rfl rfl) ?_ | refine Pstep.go (st_eqlP Try.underlying39 rfl rfl rfl) ?_ | refine Pstep.go (st_eqlN Try.underlying39 rfl rfl) ?_ | refine Pstep.go (st_eqlF Try.underlying39 rfl rfl rfl) ?_ | refine Pstep.go (st_eqlFN Try.underlying39 rfl rfl) ?_
  refine o_nil ?_
  refine a_false rfl (rfl) ?_
  refine a_skip ?_
  refine a_seq ?_
  refine a_region ?_
  refine Pstep.go (st_move rfl rfl) ?_
  first | refine Pstep.go (st_nilCheckP rfl rfl) ?_ | refine Pstep.go (st_nilCheckD rfl rfl) ?_ | refine Pstep.go (st_nilCheckR rfl rfl) ?_
  first | refine Pstep.go (st_fieldP rfl fi65_2 rfl rfl rfl) ?_ | refine Pstep.go (st_fieldF1 rfl fi65_2 rfl rfl rfl) ?_ | refine Pstep.go (st_fieldFS rfl fi65_2 rfl rfl rfl) ?_ | refine Pstep.go (st_fieldR rfl fi65_2 rfl rfl rfl) ?_
  first | refine Pstep.go (st_loadD1 rfl rfl on38 rfl) ?_ | refine Pstep.go (st_loadP rfl rfl rfl on38 rfl) ?_ | refine Pstep.go (st_loadR rfl rfl (rfl) rfl on38 rfl) ?_
  refine Pstep.go (st_assign rfl rfl) ?_
  refine o_nil ?_
  refine a_ret ?_
  exact ⟨_, [910], _, res_of rfl, rfl, rfl, rfl, rfl⟩
theorem rOffset_i (b : List UInt8) (at_ : Nat) (e : Int) : ACalls Try.prog 21 [.ptr 910 0 0] (rI b at_ e) fun r H' => r = .d (.raw (.int .i64 (at_ : Int))) ∧ H' = rI b at_ e := by
  refine a_enter Try.func21 rfl rfl Try.ntmps21 rfl rfl rfl fun F hF => ?_
  refine a_seq ?_
  refine a_region ?_
  refine Pstep.go (st_assign rfl rfl) ?_
  refine o_nil ?_
  refine a_seq ?_
  refine a_seq ?_
  refine a_region ?_
  refine Pstep.go (st_move rfl rfl) ?_
  first | refine Pstep.go (st_eql rfl rfl rfl) ?_ | refine Pstep.go (st_eqlSL rfl rfl rfl) ?_ | refine Pstep.go (st_eqlS rfl rfl rfl) ?_ | refine Pstep.go (st_eqlB Try.underlying39 rfl rfl rfl) ?_ | refine Pstep.go (st_eqlP Try.underlying39 rfl rfl rfl) ?_ | refine Pstep.go (st_eqlN Try.underlying39 rfl rfl) ?_ | refine Pstep.go (st_eqlF Try.underlying39 rfl rfl rfl) ?_ | refine Pstep.go (st_eqlFN Try.underlying39 rfl rfl) ?_
  refine o_nil ?_
  refine a_false rfl (rfl) ?_
  refine a_skip ?_
  refine a_seq ?_
  refine a_region ?_
  refine Pstep.go (st_move rfl rfl) ?_
  first | refine Pstep.go (st_nilCheckP rfl rfl) ?_ | refine Pstep.go (st_nilCheckD rfl rfl) ?_ | refine Pstep.go (st_nilCheckR rfl rfl) ?_
  first | refine Pstep.go (st_fieldP rfl fi65_1 rfl rfl rfl) ?_ | refine Pstep.go (st_fieldF1 rfl fi65_1 rfl rfl rfl) ?_ | refine Pstep.go (st_fieldFS rfl fi65_1 rfl rfl rfl) ?_ | refine Pstep.go (st_fieldR rfl fi65_1 rfl rfl rfl) ?_
  first | refine Pstep.go (st_loadD1 rfl rfl on3 rfl) ?_ | refine Pstep.go (st_loadP rfl rfl rfl on3 rfl) ?_ | refine Pstep.go (st_loadR rfl rfl (rfl) rfl on3 rfl) ?_
  refine Pstep.go (st_assign rfl rfl) ?_
  refine o_nil ?_
  refine a_ret ?_
  exact ⟨_, [910], _, res_of rfl, rfl, rfl, rfl, rfl⟩
theorem rRest_i (b : List UInt8) (at_ : Nat) (e : Int) (hs : at_ ≤ b.length) (hb : b.length ≤ 1000000000000) : ACalls Try.prog 29 [.ptr 910 0 0] (rI b at_ e) fun r H' => r = .d (.raw (.int .i64 ((b.length : Int) - (at_ : Int)))) ∧ H' = rI b at_ e := by
  refine a_enter Try.func29 rfl rfl Try.ntmps29 rfl rfl rfl fun F hF => ?_
  refine a_seq ?_
  refine a_region ?_
  refine Pstep.go (st_assign rfl rfl) ?_
  refine o_nil ?_
  refine a_seq ?_
  refine a_seq ?_
  refine a_region ?_
  refine Pstep.go (st_move rfl rfl) ?_
  first | refine Pstep.go (st_eql rfl rfl rfl) ?_ | refine Pstep.go (st_eqlSL rfl rfl rfl) ?_ | refine Pstep.go (st_eqlS rfl rfl rfl) ?_ | refine Pstep.go (st_eqlB Try.underlying39 rfl rfl rfl) ?_ | refine Pstep.go (st_eqlP Try.underlying39 rfl rfl rfl) ?_ | refine Pstep.go (st_eqlN Try.underlying39 rfl rfl) ?_ | refine Pstep.go (st_eqlF Try.underlying39 rfl rfl rfl) ?_ | refine Pstep.go (st_eqlFN Try.underlying39 rfl rfl) ?_
  refine o_nil ?_
  refine a_false rfl (rfl) ?_
  refine a_skip ?_
  refine a_seq ?_
  refine a_drawn [[], [0], [0, 1], [0, 1, 2], [0, 1, 2, 3], [], [5], [5, 6], [5, 6, 7], [0, 1, 2, 3, 4, 5, 6, 7, 8], [0, 1, 2, 3, 4, 5, 6, 7, 8, 9]] mixed rfl ?_
  refine dws ?_
  first | refine d_pure [0] [] rfl rfl (fun _ => gp_none (st_move rfl rfl)) ?_ | refine d_pureA [0] rfl rfl (fun _ => gp_none (st_move rfl rfl)) ?_
  first | refine d_pure [5] [] rfl rfl (fun _ => gp_none (st_nilCheckP rfl rfl)) ?_ | refine d_pureA [5] rfl rfl (fun _ => gp_none (st_nilCheckP rfl rfl)) ?_ | refine d_pure [5] [] rfl rfl (fun _ => gp_none (st_nilCheckD rfl rfl)) ?_ | refine d_pureA [5] rfl rfl (fun _ => gp_none (st_nilCheckD rfl rfl)) ?_ | refine d_pure [5] [] rfl rfl (fun _ => gp_none (st_nilCheckR rfl rfl)) ?_ | refine d_pureA [5] rfl rfl (fun _ => gp_none (st_nilCheckR rfl rfl)) ?_
  first | refine d_pure [6] [] rfl rfl (fun _ => gp_none (st_fieldP rfl fi65_0 rfl rfl rfl)) ?_ | refine d_pureA [6] rfl rfl (fun _ => gp_none (st_fieldP rfl fi65_0 rfl rfl rfl)) ?_ | refine d_pure [6] [] rfl rfl (fun _ => gp_none (st_fieldF1 rfl fi65_0 rfl rfl rfl)) ?_ | refine d_pureA [6] rfl rfl (fun _ => gp_none (st_fieldF1 rfl fi65_0 rfl rfl rfl)) ?_ | refine d_pure [6] [] rfl rfl (fun _ => gp_none (st_fieldFS rfl fi65_0 rfl rfl rfl)) ?_ | refine d_pureA [6] rfl rfl (fun _ => gp_none (st_fieldFS rfl fi65_0 rfl rfl rfl)) ?_ | refine d_pure [6] [] rfl rfl (fun _ => gp_none (st_fieldR rfl fi65_0 rfl rfl rfl)) ?_ | refine d_pureA [6] rfl rfl (fun _ => gp_none (st_fieldR rfl fi65_0 rfl rfl rfl)) ?_
  first | refine d_pure [7] [] rfl rfl (fun _ => gp_none (st_loadD1 rfl rfl on27 rfl)) ?_ | refine d_pureA [7] rfl rfl (fun _ => gp_none (st_loadD1 rfl rfl on27 rfl)) ?_ | refine d_pure [7] [] rfl rfl (fun _ => gp_none (st_loadP rfl rfl rfl on27 rfl)) ?_ | refine d_pureA [7] rfl rfl (fun _ => gp_none (st_loadP rfl rfl rfl on27 rfl)) ?_ | refine d_pure [7] [] rfl rfl (fun _ => gp_none (st_loadR rfl rfl (rfl) rfl on27 rfl)) ?_ | refine d_pureA [7] rfl rfl (fun _ => gp_none (st_loadR rfl rfl (rfl) rfl on27 rfl)) ?_
  first | refine d_pure [8] [] rfl rfl (fun _ => gp_none (st_lenMap rfl Try.underlying27 rfl)) ?_ | refine d_pureA [8] rfl rfl (fun _ => gp_none (st_lenMap rfl Try.underlying27 rfl)) ?_ | refine d_pure [8] [] rfl rfl (fun _ => gp_none (st_lenD rfl rfl Try.underlying27 rfl)) ?_ | refine d_pureA [8] rfl rfl (fun _ => gp_none (st_lenD rfl rfl Try.underlying27 rfl)) ?_ | refine d_pure [8] [] rfl rfl (fun _ => gp_none (st_lenO rfl Try.underlying27 rfl)) ?_ | refine d_pureA [8] rfl rfl (fun _ => gp_none (st_lenO rfl Try.underlying27 rfl)) ?_ | refine d_pure [8] [] rfl rfl (fun _ => gp_none (st_lenSL rfl Try.underlying27 rfl)) ?_ | refine d_pureA [8] rfl rfl (fun _ => gp_none (st_lenSL rfl Try.underlying27 rfl)) ?_ | refine d_pure [8] [] rfl rfl (fun _ => gp_none (st_lenS rfl Try.underlying27 rfl)) ?_ | refine d_pureA [8] rfl rfl (fun _ => gp_none (st_lenS rfl Try.underlying27 rfl)) ?_
  first | refine d_pure [0] [] rfl rfl (fun _ => gp_none (st_move rfl rfl)) ?_ | refine d_pureA [0] rfl rfl (fun _ => gp_none (st_move rfl rfl)) ?_
  first | refine d_pure [10] [] rfl rfl (fun _ => gp_none (st_nilCheckP rfl rfl)) ?_ | refine d_pureA [10] rfl rfl (fun _ => gp_none (st_nilCheckP rfl rfl)) ?_ | refine d_pure [10] [] rfl rfl (fun _ => gp_none (st_nilCheckD rfl rfl)) ?_ | refine d_pureA [10] rfl rfl (fun _ => gp_none (st_nilCheckD rfl rfl)) ?_ | refine d_pure [10] [] rfl rfl (fun _ => gp_none (st_nilCheckR rfl rfl)) ?_ | refine d_pureA [10] rfl rfl (fun _ => gp_none (st_nilCheckR rfl rfl)) ?_
  first | refine d_pure [11] [] rfl rfl (fun _ => gp_none (st_fieldP rfl fi65_1 rfl rfl rfl)) ?_ | refine d_pureA [11] rfl rfl (fun _ => gp_none (st_fieldP rfl fi65_1 rfl rfl rfl)) ?_ | refine d_pure [11] [] rfl rfl (fun _ => gp_none (st_fieldF1 rfl fi65_1 rfl rfl rfl)) ?_ | refine d_pureA [11] rfl rfl (fun _ => gp_none (st_fieldF1 rfl fi65_1 rfl rfl rfl)) ?_ | refine d_pure [11] [] rfl rfl (fun _ => gp_none (st_fieldFS rfl fi65_1 rfl rfl rfl)) ?_ | refine d_pureA [11] rfl rfl (fun _ => gp_none (st_fieldFS rfl fi65_1 rfl rfl rfl)) ?_ | refine d_pure [11] [] rfl rfl (fun _ => gp_none (st_fieldR rfl fi65_1 rfl rfl rfl)) ?_ | refine d_pureA [11] rfl rfl (fun _ => gp_none (st_fieldR rfl fi65_1 rfl rfl rfl)) ?_
  first | refine d_pure [12] [] rfl rfl (fun _ => gp_none (st_loadD1 rfl rfl on3 rfl)) ?_ | refine d_pureA [12] rfl rfl (fun _ => gp_none (st_loadD1 rfl rfl on3 rfl)) ?_ | refine d_pure [12] [] rfl rfl (fun _ => gp_none (st_loadP rfl rfl rfl on3 rfl)) ?_ | refine d_pureA [12] rfl rfl (fun _ => gp_none (st_loadP rfl rfl rfl on3 rfl)) ?_ | refine d_pure [12] [] rfl rfl (fun _ => gp_none (st_loadR rfl rfl (rfl) rfl on3 rfl)) ?_ | refine d_pureA [12] rfl rfl (fun _ => gp_none (st_loadR rfl rfl (rfl) rfl on3 rfl)) ?_
  refine dwc 9 rfl rfl rfl ?_
  refine dw1 10 rfl rfl ?_
  refine Pstep.go (st_sub rfl rfl (IntWalk.i64_in _ (by omega)) rfl) ?_
  refine o_nil ⟨rfl, ?_⟩
  refine dw1 11 rfl rfl ?_
  refine Pstep.go (st_assign rfl rfl) ?_
  refine o_nil ⟨rfl, ?_⟩
  refine dwe ?_
  refine a_ret ?_
  exact ⟨_, [910], _, res_of rfl, rfl, rfl, rfl, rfl⟩
theorem rFail_i (b : List UInt8) (at_ : Nat) (e f : Int) : ACalls Try.prog 23 [.ptr 910 0 0, .d (.raw (.int .i64 f))] (rI b at_ e) fun r H' => r = .tup [] ∧ H' = rI b at_ (if e = 0 then f else e) := by
  refine a_enter Try.func23 rfl rfl Try.ntmps23 rfl rfl rfl fun F hF => ?_
  refine a_seq ?_
  refine a_region ?_
  refine Pstep.go (st_move rfl rfl) ?_
  first | refine Pstep.go (st_neq rfl rfl rfl) ?_ | refine Pstep.go (st_neqSL rfl rfl rfl) ?_ | refine Pstep.go (st_neqS rfl rfl rfl) ?_ | refine Pstep.go (st_neqB Try.underlying39 rfl rfl rfl) ?_ | refine Pstep.go (st_neqP Try.underlying39 rfl rfl rfl) ?_ | refine Pstep.go (st_neqN Try.underlying39 rfl rfl) ?_ | refine Pstep.go (st_neqF Try.underlying39 rfl rfl rfl) ?_ | refine Pstep.go (st_neqFN Try.underlying39 rfl rfl) ?_
  refine Pstep.go (st_move rfl rfl) ?_
  refine o_setT 6 rfl (rfl) ?_
  refine o_run rfl rfl rfl ?_
  refine Pstep.go (st_move rfl rfl) ?_
  refine o_run rfl rfl rfl ?_
  first | refine Pstep.go (st_nilCheckP rfl rfl) ?_ | refine Pstep.go (st_nilCheckD rfl rfl) ?_ | refine Pstep.go (st_nilCheckR rfl rfl) ?_
  refine o_run rfl rfl rfl ?_
  first | refine Pstep.go (st_fieldP rfl fi65_2 rfl rfl rfl) ?_ | refine Pstep.go (st_fieldF1 rfl fi65_2 rfl rfl rfl) ?_ | refine Pstep.go (st_fieldFS rfl fi65_2 rfl rfl rfl) ?_ | refine Pstep.go (st_fieldR rfl fi65_2 rfl rfl rfl) ?_
  refine o_run rfl rfl rfl ?_
  first | refine Pstep.go (st_loadD1 rfl rfl on38 rfl) ?_ | refine Pstep.go (st_loadP rfl rfl rfl on38 rfl) ?_ | refine Pstep.go (st_loadR rfl rfl (rfl) rfl on38 rfl) ?_
  refine o_run rfl rfl rfl ?_
  first | refine Pstep.go (st_eql rfl rfl rfl) ?_ | refine Pstep.go (st_eqlSL rfl rfl rfl) ?_ | refine Pstep.go (st_eqlS rfl rfl rfl) ?_ | refine Pstep.go (st_eqlB Try.underlying38 rfl rfl rfl) ?_ | refine Pstep.go (st_eqlP Try.underlying38 rfl rfl rfl) ?_ | refine Pstep.go (st_eqlN Try.underlying38 rfl rfl) ?_ | refine Pstep.go (st_eqlF Try.underlying38 rfl rfl rfl) ?_ | refine Pstep.go (st_eqlFN Try.underlying38 rfl rfl) ?_
  refine Pstep.go (st_pickT rfl rfl rfl rfl) ?_
  refine o_nil ?_
  first | refine a_if rfl (fun h12 => ?_) (fun h12 => ?_) | refine a_cond rfl (fun h12 => ?_) (fun h12 => ?_)
  · refine a_region ?_
    refine Pstep.go (st_move rfl rfl) ?_
    refine Pstep.go (st_move rfl rfl) ?_
    first | refine Pstep.go (st_nilCheckP rfl rfl) ?_ | refine Pstep.go (st_nilCheckD rfl rfl) ?_ | refine Pstep.go (st_nilCheckR rfl rfl) ?_
    first | refine Pstep.go (st_fieldP rfl fi65_2 rfl rfl rfl) ?_ | refine Pstep.go (st_fieldF1 rfl fi65_2 rfl rfl rfl) ?_ | refine Pstep.go (st_fieldFS rfl fi65_2 rfl rfl rfl) ?_ | refine Pstep.go (st_fieldR rfl fi65_2 rfl rfl rfl) ?_
    refine Estep.go (st_storeP rfl rfl rfl rfl rfl rfl rfl sz38) ?_
    refine o_nil ?_
    have h1 : e = 0 := h12
    exact ⟨_, [910], _, res_of rfl, rfl, rfl, rfl, by rw [if_pos h1]⟩
  · refine a_skip ?_
    have h1 : ¬ e = 0 := h12
    exact ⟨_, [910], _, res_of rfl, rfl, rfl, rfl, by rw [if_neg h1]⟩
theorem rEnd_bad (b : List UInt8) (at_ : Nat) (e : Int) (he : ¬ e = 0) : ACalls Try.prog 24 [.ptr 910 0 0] (rI b at_ e) fun r H' => r = .d (.raw (.int .i64 e)) ∧ H' = rI b at_ e := by
  refine a_enter Try.func24 rfl rfl Try.ntmps24 rfl rfl rfl fun F hF => ?_
  refine a_seq ?_
  refine a_region ?_
  refine Pstep.go (st_assign rfl rfl) ?_
  refine o_nil ?_
  refine a_seq ?_
  refine a_seq ?_
  refine a_region ?_
  refine Pstep.go (st_move rfl rfl) ?_
  refine Estep.go (st_callD (rErr_i b at_ e) rfl [910] ⟨rfl, trivial⟩ rfl rfl rfl rfl rfl rfl rfl rfl rfl) ?_
  refine Pstep.go (st_assign rfl rfl) ?_
  refine o_nil ?_
  refine a_seq ?_
  refine a_region ?_
  refine Pstep.go (st_move rfl rfl) ?_
  first | refine Pstep.go (st_neq rfl rfl rfl) ?_ | refine Pstep.go (st_neqSL rfl rfl rfl) ?_ | refine Pstep.go (st_neqS rfl rfl rfl) ?_ | refine Pstep.go (st_neqB Try.underlying38 rfl rfl rfl) ?_ | refine Pstep.go (st_neqP Try.underlying38 rfl rfl rfl) ?_ | refine Pstep.go (st_neqN Try.underlying38 rfl rfl) ?_ | refine Pstep.go (st_neqF Try.underlying38 rfl rfl rfl) ?_ | refine Pstep.go (st_neqFN Try.underlying38 rfl rfl) ?_
  refine Pstep.go (st_move rfl rfl) ?_
  refine o_setT 8 rfl (decide_eq_true he) ?_
  refine o_pass rfl rfl rfl rfl ?_
  refine o_pass rfl rfl rfl rfl ?_
  refine o_pass rfl rfl rfl rfl ?_
  refine Pstep.go (st_pickT rfl rfl rfl rfl) ?_
  refine o_nil ?_
  refine a_true rfl rfl ?_
  refine a_seq ?_
  refine a_region ?_
  refine Pstep.go (st_move rfl rfl) ?_
  refine Pstep.go (st_assign rfl rfl) ?_
  refine o_nil ?_
  refine a_ret ?_
  exact ⟨_, [910], _, res_of rfl, rfl, rfl, rfl, rfl⟩
end Go.Proofs.Ytjbghmlofjkcfaa
