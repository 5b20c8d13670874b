/- The walk of CodecNil. -/
import Derived.Test.YtjbghmlofjkcfaaCodN
import Derived.Test.YtjbghmlofjkcfaaFrz2
namespace Go.Proofs.Ytjbghmlofjkcfaa
open Go.RowKit

set_option maxHeartbeats 4000000 in
theorem nil_p (v : CV) (mx : Int) (hv : VIn v) (h1 : -9223372036854775808 ≤ mx) (h2 : mx ≤ 9223372036854775807) : PCalls Try.prog 10 [.d (vD v), .d (.raw (.int .i64 mx))] (.raw (.bool true)) := by
  have hsp := small_p [v] (by show 1 ≤ _; omega) (fun x hx => by rw [List.mem_singleton.1 hx]; exact hv)
  have hvs0 := hv.s
  have hzp : pureC ⟨v.k, 0, 0, false, [], []⟩ = zeroV v.k := by
    rcases kinds ⟨v.k, 0, 0, false, [], []⟩ with ⟨_, h⟩ | ⟨_, h⟩ | ⟨_, h⟩ | ⟨_, h⟩ | ⟨_, k0, k1, k2, k3⟩
    · rw [pure0 h, zeroVa (.inl h)]; dsimp only at h ⊢; rw [h]
    · rw [pure1 h, zeroVa (.inr (.inl h))]; dsimp only at h ⊢; rw [h]
    · rw [pure2 h, zeroVa (.inr (.inr (.inl h)))]; dsimp only at h ⊢; rw [h]
    · rw [pure3 h, zeroVa (.inr (.inr (.inr h)))]; dsimp only at h ⊢; rw [h]
    · rw [pure4 k0 k1 k2 k3, zeroVb k0 k1 k2 k3]
  have cp := pure_p ⟨v.k, 0, 0, false, [], []⟩
  rw [hzp] at cp
  refine a_enter Try.func10 rfl rfl Try.ntmps10 rfl rfl rfl fun F hF => ?_
  refine a_seq ?_
  refine a_region ?_
  refine Estep.go (st_box 1 rfl rfl rfl rfl rfl rfl rfl) ?_
  refine Pstep.go (st_assign rfl rfl) ?_
  refine o_nil ?_
  refine a_seq ?_
  refine a_seq ?_
  refine a_region ?_
  refine Pstep.go (st_callP (known_p) rfl rfl) ?_
  first | refine Pstep.go (st_notP rfl rfl) ?_ | refine Pstep.go (st_not rfl rfl) ?_
  refine Pstep.go (st_move rfl rfl) ?_
  refine o_setF 13 rfl (rfl) ?_
  refine o_run rfl rfl rfl ?_
  first | refine Pstep.go (st_loadDS rfl rfl rw32 rfl) ?_ | refine Pstep.go (st_loadPS rfl rfl rw32 rfl rfl rfl) ?_ | refine Pstep.go (st_loadRS rfl rfl (rfl) rfl rw32 rfl) ?_
  refine o_run rfl rfl rfl ?_
  refine Estep.go (st_buildSlice 960 sl22 rfl rfl rfl rfl rfl rfl rfl rfl) ?_
  refine o_freezeM (emb := vD) 15 960 [v] rfl rfl rfl rfl rfl rfl rfl ?_
  refine o_run rfl rfl rfl ?_
  refine Pstep.go (st_callP (hsp) rfl rfl) ?_
  refine o_run rfl rfl rfl ?_
  first | refine Pstep.go (st_notP rfl rfl) ?_ | refine Pstep.go (st_not rfl rfl) ?_
  refine Pstep.go (st_pickF rfl rfl rfl rfl) ?_
  refine o_nil ?_
  first | refine a_if rfl (fun h18 => ?_) (fun h18 => ?_) | refine a_cond rfl (fun h18 => ?_) (fun h18 => ?_)
  · refine a_seq ?_
    refine a_region ?_
    refine Pstep.go (st_callP (known_p) rfl rfl) ?_
    refine Pstep.go (st_assign rfl rfl) ?_
    refine o_nil ?_
    refine a_ret ?_
    exact ⟨_, [], [], res_of rfl, rfl, rfl, rfl, rfl⟩
  · refine a_skip ?_
    refine a_seq ?_
    have hsm : tot [v] ≤ 4000 := by have h := h18; omega
    have hvs : vsz v ≤ 4000 := Nat.le_trans (tot_mem (List.mem_singleton.2 rfl)) hsm
    have hok := hv.ok hvs
    have hel := enc_pure_len hv hvs
    refine a_region ?_
    refine Pstep.go (st_assign rfl rfl) ?_
    refine o_nil ?_
    refine a_seq ?_
    refine a_region ?_
    refine Pstep.go (st_move rfl rfl) ?_
    first | refine Pstep.go (st_loadDS rfl rfl rw32 rfl) ?_ | refine Pstep.go (st_loadPS rfl rfl rw32 rfl rfl rfl) ?_ | refine Pstep.go (st_loadRS rfl rfl (rfl) rfl rw32 rfl) ?_
    refine Pstep.go (st_move rfl rfl) ?_
    refine Pstep.go (st_rem rfl rfl (by omega) (rfl) rfl) ?_
    first | refine Pstep.go (st_eql rfl rfl rfl) ?_ | refine Pstep.go (st_eqlSL rfl rfl rfl) ?_ | refine Pstep.go (st_eqlS rfl rfl rfl) ?_ | refine Pstep.go (st_eqlB Try.underlying3 rfl rfl rfl) ?_ | refine Pstep.go (st_eqlP Try.underlying3 rfl rfl rfl) ?_ | refine Pstep.go (st_eqlN Try.underlying3 rfl rfl) ?_ | refine Pstep.go (st_eqlF Try.underlying3 rfl rfl rfl) ?_ | refine Pstep.go (st_eqlFN Try.underlying3 rfl rfl) ?_
    refine Estep.go (st_callD (put_nil v _ (by omega)) rfl [] trivial rfl rfl rfl rfl rfl rfl rfl rfl rfl) ?_
    refine o_nil ?_
    refine a_seq ?_
    refine a_region ?_
    refine Pstep.go (st_assign rfl rfl) ?_
    refine o_nil ?_
    refine a_seq ?_
    refine a_region ?_
    refine Pstep.go (st_move rfl rfl) ?_
    first | refine Pstep.go (st_fieldP rfl fi32_0 rfl rfl rfl) ?_ | refine Pstep.go (st_fieldF1 rfl fi32_0 rfl rfl rfl) ?_ | refine Pstep.go (st_fieldFS rfl fi32_0 rfl rfl rfl) ?_ | refine Pstep.go (st_fieldR rfl fi32_0 rfl rfl rfl) ?_
    first | refine Pstep.go (st_loadD1 rfl rfl on3 rfl) ?_ | refine Pstep.go (st_loadP rfl rfl rfl on3 rfl) ?_ | refine Pstep.go (st_loadR rfl rfl (rfl) rfl on3 rfl) ?_
    refine Pstep.go (st_move rfl rfl) ?_
    refine Pstep.go (st_move rfl rfl) ?_
    refine Pstep.go (st_rem rfl rfl (by omega) (rfl) rfl) ?_
    first | refine Pstep.go (st_eql rfl rfl rfl) ?_ | refine Pstep.go (st_eqlSL rfl rfl rfl) ?_ | refine Pstep.go (st_eqlS rfl rfl rfl) ?_ | refine Pstep.go (st_eqlB Try.underlying3 rfl rfl rfl) ?_ | refine Pstep.go (st_eqlP Try.underlying3 rfl rfl rfl) ?_ | refine Pstep.go (st_eqlN Try.underlying3 rfl rfl) ?_ | refine Pstep.go (st_eqlF Try.underlying3 rfl rfl rfl) ?_ | refine Pstep.go (st_eqlFN Try.underlying3 rfl rfl) ?_
    refine Pstep.go (st_callP (take_nil v.k mx _) rfl rfl) ?_
    refine Estep.go (st_alloc 3 zl32 rfl rfl rfl rfl) ?_
    refine Estep.go (st_storeP rfl rfl rfl rfl rfl rfl rfl sz32) ?_
    refine o_nil ?_
    refine a_seq ?_
    refine a_region ?_
    refine Pstep.go (st_move rfl rfl) ?_
    refine Estep.go (st_callD (rFail_nil 2) rfl [] trivial rfl rfl rfl rfl rfl rfl rfl rfl rfl) ?_
    refine o_nil ?_
    refine a_seq ?_
    refine a_region ?_
    first | refine Pstep.go (st_fieldP rfl fi32_0 rfl rfl rfl) ?_ | refine Pstep.go (st_fieldF1 rfl fi32_0 rfl rfl rfl) ?_ | refine Pstep.go (st_fieldFS rfl fi32_0 rfl rfl rfl) ?_ | refine Pstep.go (st_fieldR rfl fi32_0 rfl rfl rfl) ?_
    first | refine Pstep.go (st_loadD1 rfl rfl on3 rfl) ?_ | refine Pstep.go (st_loadP rfl rfl rfl on3 rfl) ?_ | refine Pstep.go (st_loadR rfl rfl (rfl) rfl on3 rfl) ?_
    refine Pstep.go (st_build zl32 pl32 rfl rfl rfl) ?_
    refine o_weakD 38 (.agg [.raw (.int .i64 v.k), .raw (.int .u64 0), .raw (.int .i64 0), .raw (.bool false), .raw (.string ⟨#[]⟩), .sl none []]) rfl (fun _ _ _ h => aggNil h) ?_
    refine Pstep.go (st_callP (cp) rfl rfl) ?_
    refine Estep.go (st_alloc 4 zl32 rfl rfl rfl rfl) ?_
    refine Estep.go (st_storeP rfl rfl rfl rfl rfl rfl rfl sz32) ?_
    refine o_nil ?_
    refine a_seq ?_
    refine a_seq ?_
    refine a_region ?_
    refine Pstep.go (st_move rfl rfl) ?_
    refine Pstep.go (st_callP (wBytes_nil) rfl rfl) ?_
    first | refine Pstep.go (st_lenMap rfl Try.underlying27 rfl) ?_ | refine Pstep.go (st_lenD rfl rfl Try.underlying27 rfl) ?_ | refine Pstep.go (st_lenO rfl Try.underlying27 rfl) ?_ | refine Pstep.go (st_lenSL rfl Try.underlying27 rfl) ?_ | refine Pstep.go (st_lenS rfl Try.underlying27 rfl) ?_
    first | refine Pstep.go (st_neq rfl rfl rfl) ?_ | refine Pstep.go (st_neqSL rfl rfl rfl) ?_ | refine Pstep.go (st_neqS rfl rfl rfl) ?_ | refine Pstep.go (st_neqB Try.underlying3 rfl rfl rfl) ?_ | refine Pstep.go (st_neqP Try.underlying3 rfl rfl rfl) ?_ | refine Pstep.go (st_neqN Try.underlying3 rfl rfl) ?_ | refine Pstep.go (st_neqF Try.underlying3 rfl rfl rfl) ?_ | refine Pstep.go (st_neqFN Try.underlying3 rfl rfl) ?_
    refine Pstep.go (st_move rfl rfl) ?_
    refine o_setF 44 rfl (rfl) ?_
    refine o_run rfl rfl rfl ?_
    refine Pstep.go (st_move rfl rfl) ?_
    refine o_run rfl rfl rfl ?_
    refine Pstep.go (st_callP (wLen_nil) rfl rfl) ?_
    refine o_run rfl rfl rfl ?_
    first | refine Pstep.go (st_neq rfl rfl rfl) ?_ | refine Pstep.go (st_neqSL rfl rfl rfl) ?_ | refine Pstep.go (st_neqS rfl rfl rfl) ?_ | refine Pstep.go (st_neqB Try.underlying3 rfl rfl rfl) ?_ | refine Pstep.go (st_neqP Try.underlying3 rfl rfl rfl) ?_ | refine Pstep.go (st_neqN Try.underlying3 rfl rfl) ?_ | refine Pstep.go (st_neqF Try.underlying3 rfl rfl rfl) ?_ | refine Pstep.go (st_neqFN Try.underlying3 rfl rfl) ?_
    refine Pstep.go (st_pickF rfl rfl rfl rfl) ?_
    refine Pstep.go (st_move rfl rfl) ?_
    refine o_setF 49 rfl (rfl) ?_
    refine o_run rfl rfl rfl ?_
    first | refine Pstep.go (st_loadDS rfl rfl rw32 rfl) ?_ | refine Pstep.go (st_loadPS rfl rfl rw32 rfl rfl rfl) ?_ | refine Pstep.go (st_loadRS rfl rfl (rfl) rfl rw32 rfl) ?_
    refine o_run rfl rfl rfl ?_
    first | refine Pstep.go (st_loadDS rfl rfl rw32 rfl) ?_ | refine Pstep.go (st_loadPS rfl rfl rw32 rfl rfl rfl) ?_ | refine Pstep.go (st_loadRS rfl rfl (rfl) rfl rw32 rfl) ?_
    refine o_run rfl rfl rfl ?_
    refine Pstep.go (st_callP (same_p (zeroV v.k) (zeroV v.k) (Nat.zero_le _)) rfl rfl) ?_
    refine o_run rfl rfl rfl ?_
    first | refine Pstep.go (st_notP rfl rfl) ?_ | refine Pstep.go (st_not rfl rfl) ?_
    refine Pstep.go (st_pickF rfl rfl rfl rfl) ?_
    refine Pstep.go (st_move rfl rfl) ?_
    refine o_setF 55 rfl (by simp) ?_
    refine o_run rfl rfl rfl ?_
    refine Pstep.go (st_move rfl rfl) ?_
    refine o_run rfl rfl rfl ?_
    refine Pstep.go (st_callP (rErr_nil) rfl rfl) ?_
    refine o_run rfl rfl rfl ?_
    first | refine Pstep.go (st_neq rfl rfl rfl) ?_ | refine Pstep.go (st_neqSL rfl rfl rfl) ?_ | refine Pstep.go (st_neqS rfl rfl rfl) ?_ | refine Pstep.go (st_neqB Try.underlying38 rfl rfl rfl) ?_ | refine Pstep.go (st_neqP Try.underlying38 rfl rfl rfl) ?_ | refine Pstep.go (st_neqN Try.underlying38 rfl rfl) ?_ | refine Pstep.go (st_neqF Try.underlying38 rfl rfl rfl) ?_ | refine Pstep.go (st_neqFN Try.underlying38 rfl rfl) ?_
    refine Pstep.go (st_pickF rfl rfl rfl rfl) ?_
    refine Pstep.go (st_move rfl rfl) ?_
    refine o_setF 60 rfl (rfl) ?_
    refine o_run rfl rfl rfl ?_
    refine Pstep.go (st_move rfl rfl) ?_
    refine o_run rfl rfl rfl ?_
    refine Pstep.go (st_callP (rEnd_nil) rfl rfl) ?_
    refine o_run rfl rfl rfl ?_
    first | refine Pstep.go (st_neq rfl rfl rfl) ?_ | refine Pstep.go (st_neqSL rfl rfl rfl) ?_ | refine Pstep.go (st_neqS rfl rfl rfl) ?_ | refine Pstep.go (st_neqB Try.underlying38 rfl rfl rfl) ?_ | refine Pstep.go (st_neqP Try.underlying38 rfl rfl rfl) ?_ | refine Pstep.go (st_neqN Try.underlying38 rfl rfl) ?_ | refine Pstep.go (st_neqF Try.underlying38 rfl rfl rfl) ?_ | refine Pstep.go (st_neqFN Try.underlying38 rfl rfl) ?_
    refine Pstep.go (st_pickF rfl rfl rfl rfl) ?_
    refine Pstep.go (st_move rfl rfl) ?_
    refine o_setF 65 rfl (rfl) ?_
    refine o_run rfl rfl rfl ?_
    refine Pstep.go (st_move rfl rfl) ?_
    refine o_run rfl rfl rfl ?_
    refine Pstep.go (st_callP (rOffset_nil) rfl rfl) ?_
    refine o_run rfl rfl rfl ?_
    first | refine Pstep.go (st_neq rfl rfl rfl) ?_ | refine Pstep.go (st_neqSL rfl rfl rfl) ?_ | refine Pstep.go (st_neqS rfl rfl rfl) ?_ | refine Pstep.go (st_neqB Try.underlying3 rfl rfl rfl) ?_ | refine Pstep.go (st_neqP Try.underlying3 rfl rfl rfl) ?_ | refine Pstep.go (st_neqN Try.underlying3 rfl rfl) ?_ | refine Pstep.go (st_neqF Try.underlying3 rfl rfl rfl) ?_ | refine Pstep.go (st_neqFN Try.underlying3 rfl rfl) ?_
    refine Pstep.go (st_pickF rfl rfl rfl rfl) ?_
    refine Pstep.go (st_move rfl rfl) ?_
    refine o_setF 70 rfl (rfl) ?_
    refine o_run rfl rfl rfl ?_
    refine Pstep.go (st_move rfl rfl) ?_
    refine o_run rfl rfl rfl ?_
    refine Pstep.go (st_callP (rRest_nil) rfl rfl) ?_
    refine o_run rfl rfl rfl ?_
    first | refine Pstep.go (st_neq rfl rfl rfl) ?_ | refine Pstep.go (st_neqSL rfl rfl rfl) ?_ | refine Pstep.go (st_neqS rfl rfl rfl) ?_ | refine Pstep.go (st_neqB Try.underlying3 rfl rfl rfl) ?_ | refine Pstep.go (st_neqP Try.underlying3 rfl rfl rfl) ?_ | refine Pstep.go (st_neqN Try.underlying3 rfl rfl) ?_ | refine Pstep.go (st_neqF Try.underlying3 rfl rfl rfl) ?_ | refine Pstep.go (st_neqFN Try.underlying3 rfl rfl) ?_
    refine Pstep.go (st_pickF rfl rfl rfl rfl) ?_
    refine o_nil ?_
    refine a_false rfl (rfl) ?_
    refine a_skip ?_
    refine a_seq ?_
    refine a_only [1] hF rfl rfl ?_
    refine a_region ?_
    refine Estep.go (st_alloc 900 zl63 rfl rfl rfl rfl) ?_
    refine o_adoptC 900 0 0 901 sl27 rfl rfl rfl rfl rfl rfl rfl ?_
    refine o_nil ?_
    refine a_seq ?_
    refine a_region ?_
    first | refine Pstep.go (st_loadDS rfl rfl rw32 rfl) ?_ | refine Pstep.go (st_loadPS rfl rfl rw32 rfl rfl rfl) ?_ | refine Pstep.go (st_loadRS rfl rfl (rfl) rfl rw32 rfl) ?_
    refine Estep.go (st_callD (put_900 [] v false hok (Nat.zero_le _)) rfl [900, 901] ⟨rfl, rfl, trivial⟩ rfl rfl rfl rfl rfl rfl rfl rfl rfl) ?_
    refine o_nil ?_
    refine a_seq ?_
    refine a_region ?_
    refine Estep.go (st_alloc 910 zl65 rfl rfl rfl rfl) ?_
    refine o_weakC 910 0 0 (.sl none []) rfl rfl (fun _ _ _ h => h.anyNil) rfl rfl ?_
    refine o_nil ?_
    refine a_seq ?_
    have e6 : stU [] (0, 0) = (0, 0, 19) := by decide
    have c6 := rUint_910 [] (0, 0) (Nat.zero_le _) (by decide)
    rw [e6] at c6
    refine a_drawn [[], [0], [], [0, 2], [0, 2, 3], [0, 2, 3, 4], [0, 1, 2, 3, 4, 5], [0, 1, 2, 3, 4, 5, 6], [0, 1, 2, 3, 4, 5, 6, 7], [0, 1, 2, 3, 4, 5, 6, 7, 8], [0, 1, 2, 3, 4, 5, 6, 7, 8, 9], [0, 1, 2, 3, 4, 5, 6, 7, 8, 9, 10], [0, 1, 2, 3, 4, 5, 6, 7, 8, 9, 10, 11], [0, 1, 2, 3, 4, 5, 6, 7, 8, 9, 10, 11, 12], [0, 1, 2, 3, 4, 5, 6, 7, 8, 9, 10, 11, 12, 13], [0, 1, 2, 3, 4, 5, 6, 7, 8, 9, 10, 11, 12, 13, 14], [0, 1, 2, 3, 4, 5, 6, 7, 8, 9, 10, 11, 12, 13, 14, 15], [0, 1, 2, 3, 4, 5, 6, 7, 8, 9, 10, 11, 12, 13, 14, 15, 16], [0, 1, 2, 3, 4, 5, 6, 7, 8, 9, 10, 11, 12, 13, 14, 15, 16, 17], [0, 1, 2, 3, 4, 5, 6, 7, 8, 9, 10, 11, 12, 13, 14, 15, 16, 17, 18]] mixed rfl ?_
    refine dws ?_
    refine d_eff [9] [900, 901, 902] [(77, _)] rfl rfl (fun _ => ge_none (st_callD (wBytes_900 (enc (pureC v)) (by omega)) rfl [900, 901, 902] ⟨rfl, rfl, rfl, trivial⟩ rfl rfl rfl rfl rfl rfl rfl rfl rfl)) (.inr ⟨77, _, rfl, rfl, rfl, rfl, rfl⟩) rfl rfl rfl rfl rfl ?_
    refine d_pure [77] [902] rfl rfl (fun _ => gp_none (st_convBSO (enc (pureC v)) rfl rfl (by simp) rfl Try.underlying27 Try.underlying5 Try.underlying9 rfl)) ?_
    first | refine d_pure [2] [1] rfl rfl (fun _ => gp_none (st_loadDS rfl rfl rw32 rfl)) ?_ | refine d_pure [2] [1] rfl rfl (fun _ => gp_none (st_loadPS rfl rfl rw32 rfl rfl rfl)) ?_ | refine d_pure [2] [1] rfl rfl (fun _ => gp_none (st_loadRS rfl rfl (rfl) rfl rw32 rfl)) ?_
    first | refine d_pure [79] [] rfl rfl (fun _ => gp_none (st_callP (pure_p v) rfl rfl)) ?_ | refine d_pureA [79] rfl rfl (fun _ => gp_none (st_callP (pure_p v) rfl rfl)) ?_
    first | refine d_pure [80] [] rfl rfl (fun _ => gp_none (st_callP (encode_p _ hok.pure) rfl rfl)) ?_ | refine d_pureA [80] rfl rfl (fun _ => gp_none (st_callP (encode_p _ hok.pure) rfl rfl)) ?_
    first | refine d_pure [81] [] rfl rfl (fun _ => gp_none (st_convBS (enc (pureC v)) rfl rfl Try.underlying27 Try.underlying5 Try.underlying9 rfl)) ?_ | refine d_pureA [81] rfl rfl (fun _ => gp_none (st_convBS (enc (pureC v)) rfl rfl Try.underlying27 Try.underlying5 Try.underlying9 rfl)) ?_
    refine dwc 6 rfl rfl rfl ?_
    refine dw1 7 rfl rfl ?_
    first | refine Pstep.go (st_eql rfl rfl rfl) ?_ | refine Pstep.go (st_eqlSL rfl rfl rfl) ?_ | refine Pstep.go (st_eqlS rfl rfl rfl) ?_ | refine Pstep.go (st_eqlB Try.underlying9 rfl rfl rfl) ?_ | refine Pstep.go (st_eqlP Try.underlying9 rfl rfl rfl) ?_ | refine Pstep.go (st_eqlN Try.underlying9 rfl rfl) ?_ | refine Pstep.go (st_eqlF Try.underlying9 rfl rfl rfl) ?_ | refine Pstep.go (st_eqlFN Try.underlying9 rfl rfl) ?_
    refine o_nil ⟨rfl, ?_⟩
    refine dw1 8 rfl rfl ?_
    refine Pstep.go (st_move rfl rfl) ?_
    refine o_setT 84 rfl (by simp) ?_
    refine o_nil ⟨rfl, ?_⟩
    refine dw1 9 rfl rfl ?_
    refine o_run rfl rfl rfl ?_
    refine Estep.go (st_callD (rEnd_910 [] (0, 0) (Nat.zero_le _) (by decide)) rfl [910] ⟨rfl, trivial⟩ rfl rfl rfl rfl rfl rfl rfl rfl rfl) ?_
    refine o_nil ⟨rfl, ?_⟩
    refine dw1 10 rfl rfl ?_
    refine o_run rfl rfl rfl ?_
    first | refine Pstep.go (st_eql rfl rfl rfl) ?_ | refine Pstep.go (st_eqlSL rfl rfl rfl) ?_ | refine Pstep.go (st_eqlS rfl rfl rfl) ?_ | refine Pstep.go (st_eqlB Try.underlying38 rfl rfl rfl) ?_ | refine Pstep.go (st_eqlP Try.underlying38 rfl rfl rfl) ?_ | refine Pstep.go (st_eqlN Try.underlying38 rfl rfl) ?_ | refine Pstep.go (st_eqlF Try.underlying38 rfl rfl rfl) ?_ | refine Pstep.go (st_eqlFN Try.underlying38 rfl rfl) ?_
    refine o_nil ⟨rfl, ?_⟩
    refine dw1 11 rfl rfl ?_
    refine Pstep.go (st_pickT rfl rfl rfl rfl) ?_
    refine o_nil ⟨rfl, ?_⟩
    refine dw1 12 rfl rfl ?_
    refine Pstep.go (st_move rfl rfl) ?_
    refine o_setT 88 rfl (rfl) ?_
    refine o_nil ⟨rfl, ?_⟩
    refine dw1 13 rfl rfl ?_
    refine o_run rfl rfl rfl ?_
    refine Estep.go (st_callD c6 rfl [910] ⟨rfl, trivial⟩ rfl rfl rfl rfl rfl rfl rfl rfl rfl) ?_
    refine o_nil ⟨rfl, ?_⟩
    refine dw1 14 rfl rfl ?_
    refine o_run rfl rfl rfl ?_
    first | refine Pstep.go (st_eql rfl rfl rfl) ?_ | refine Pstep.go (st_eqlSL rfl rfl rfl) ?_ | refine Pstep.go (st_eqlS rfl rfl rfl) ?_ | refine Pstep.go (st_eqlB Try.underlying29 rfl rfl rfl) ?_ | refine Pstep.go (st_eqlP Try.underlying29 rfl rfl rfl) ?_ | refine Pstep.go (st_eqlN Try.underlying29 rfl rfl) ?_ | refine Pstep.go (st_eqlF Try.underlying29 rfl rfl rfl) ?_ | refine Pstep.go (st_eqlFN Try.underlying29 rfl rfl) ?_
    refine o_nil ⟨rfl, ?_⟩
    refine dw1 15 rfl rfl ?_
    refine Pstep.go (st_pickT rfl rfl rfl rfl) ?_
    refine o_nil ⟨rfl, ?_⟩
    refine dw1 16 rfl rfl ?_
    refine Pstep.go (st_move rfl rfl) ?_
    refine o_setT 92 rfl (rfl) ?_
    refine o_nil ⟨rfl, ?_⟩
    refine dw1 17 rfl rfl ?_
    refine o_run rfl rfl rfl ?_
    refine Estep.go (st_callD (rErr_910 [] (0, 19)) rfl [910] ⟨rfl, trivial⟩ rfl rfl rfl rfl rfl rfl rfl rfl rfl) ?_
    refine o_nil ⟨rfl, ?_⟩
    refine dw1 18 rfl rfl ?_
    refine o_run rfl rfl rfl ?_
    first | refine Pstep.go (st_eql rfl rfl rfl) ?_ | refine Pstep.go (st_eqlSL rfl rfl rfl) ?_ | refine Pstep.go (st_eqlS rfl rfl rfl) ?_ | refine Pstep.go (st_eqlB Try.underlying38 rfl rfl rfl) ?_ | refine Pstep.go (st_eqlP Try.underlying38 rfl rfl rfl) ?_ | refine Pstep.go (st_eqlN Try.underlying38 rfl rfl) ?_ | refine Pstep.go (st_eqlF Try.underlying38 rfl rfl rfl) ?_ | refine Pstep.go (st_eqlFN Try.underlying38 rfl rfl) ?_
    refine o_nil ⟨rfl, ?_⟩
    refine dw1 19 rfl rfl ?_
    refine Pstep.go (st_pickT rfl rfl rfl rfl) ?_
    refine o_nil ⟨rfl, ?_⟩
    refine dw1 20 rfl rfl ?_
    refine Pstep.go (st_assign rfl rfl) ?_
    refine o_nil ⟨rfl, ?_⟩
    refine dwe ?_
    refine a_ret ?_
    exact ⟨_, [], [], res_of rfl, rfl, rfl, rfl, rfl⟩
end Go.Proofs.Ytjbghmlofjkcfaa
