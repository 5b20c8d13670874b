/- The walk of CodecRead. -/
import Derived.Test.YtjbghmlofjkcfaaCodRe
import Derived.Test.YtjbghmlofjkcfaaCodS
namespace Go.Proofs.Ytjbghmlofjkcfaa
open Go.RowKit

theorem decV_l (mx k : Int) (t : List UInt8) : (decV mx k t).1.l.length ≤ 1048576 := by
  by_cases h : (decV mx k t).2.2 = 0
  · by_cases e0 : k = 0
    · unfold decV; rw [if_pos e0]; exact Nat.zero_le _
    by_cases e1 : k = 1
    · unfold decV; rw [if_neg e0, if_pos e1]; exact Nat.zero_le _
    by_cases e2 : k = 2
    · unfold decV; rw [if_neg e0, if_neg e1, if_pos e2]; exact Nat.zero_le _
    by_cases e3 : k = 3
    · unfold decV; rw [if_neg e0, if_neg e1, if_neg e2, if_pos e3]; exact Nat.zero_le _
    unfold decV at h ⊢
    rw [if_neg e0, if_neg e1, if_neg e2, if_neg e3] at h ⊢
    split at h
    · rename_i hn
      rw [if_pos hn]
      have := (decL_can _ _ h).2
      have := (decN_can hn).2.2
      dsimp only; omega
    · rename_i hn; exact absurd h hn
  · rw [decV_err h]; exact Nat.zero_le _
theorem zeroV_k {k : Int} (h0 : 0 ≤ k) (h4 : k ≤ 4) : zeroV k = ⟨k, 0, 0, false, [], []⟩ := by
  unfold zeroV
  split
  · rfl
  · congr 1; omega
set_option maxHeartbeats 4000000 in
theorem codecRead_p (b ks : List UInt8) (mx : Int) (blob : Bool) (hb0 : b.length ≤ 140737488351232) (hk0 : ks.length ≤ 140737488351232) (h1 : -9223372036854775808 ≤ mx) (h2 : mx ≤ 9223372036854775807) : PCalls Try.prog 6 [.d (bytesD b), .d (bytesD ks), .d (.raw (.int .i64 mx)), .d (.raw (.bool blob))] (.raw (.bool true)) := by
  refine a_enter Try.func6 rfl rfl Try.ntmps6 rfl rfl rfl fun F hF => ?_
  refine a_seq ?_
  refine a_region ?_
  refine Pstep.go (st_assign rfl rfl) ?_
  refine o_nil ?_
  refine a_seq ?_
  refine a_seq ?_
  refine a_region ?_
  refine Pstep.go (st_callP (known_p) rfl rfl) ?_
  first | refine Pstep.go (st_notP rfl rfl) ?_ | refine Pstep.go (st_not rfl rfl) ?_
  refine Pstep.go (st_move rfl rfl) ?_
  refine o_setF 23 rfl (rfl) ?_
  refine o_run rfl rfl rfl ?_
  refine Pstep.go (st_move rfl rfl) ?_
  refine o_run rfl rfl rfl ?_
  first | refine Pstep.go (st_lenMap rfl Try.underlying27 rfl) ?_ | refine Pstep.go (st_lenD rfl rfl Try.underlying27 rfl) ?_ | refine Pstep.go (st_lenO rfl Try.underlying27 rfl) ?_ | refine Pstep.go (st_lenSL rfl Try.underlying27 rfl) ?_ | refine Pstep.go (st_lenS rfl Try.underlying27 rfl) ?_
  refine o_run rfl rfl rfl ?_
  first | refine Pstep.go (st_gtr rfl rfl rfl) ?_ | refine Pstep.go (st_gtrS rfl rfl rfl) ?_
  refine Pstep.go (st_pickF rfl rfl rfl rfl) ?_
  refine Pstep.go (st_move rfl rfl) ?_
  first | refine o_splitP 28 rfl (fun h28 => ?_) (fun h28 => ?_) | refine o_splitB 28 rfl (fun h28 => ?_) (fun h28 => ?_)
  · refine o_pass rfl rfl rfl rfl ?_
    refine o_pass rfl rfl rfl rfl ?_
    refine o_pass rfl rfl rfl rfl ?_
    refine Pstep.go (st_pickT rfl rfl rfl rfl) ?_
    refine o_nil ?_
    refine a_true rfl rfl ?_
    refine a_seq ?_
    refine a_region ?_
    refine Pstep.go (st_callP (known_p) rfl rfl) ?_
    refine Pstep.go (st_assign rfl rfl) ?_
    refine o_nil ?_
    refine a_ret ?_
    exact ⟨_, [], [], res_of rfl, rfl, rfl, rfl, rfl⟩
  · refine o_run rfl rfl rfl ?_
    refine Pstep.go (st_move rfl rfl) ?_
    refine o_run rfl rfl rfl ?_
    first | refine Pstep.go (st_lenMap rfl Try.underlying27 rfl) ?_ | refine Pstep.go (st_lenD rfl rfl Try.underlying27 rfl) ?_ | refine Pstep.go (st_lenO rfl Try.underlying27 rfl) ?_ | refine Pstep.go (st_lenSL rfl Try.underlying27 rfl) ?_ | refine Pstep.go (st_lenS rfl Try.underlying27 rfl) ?_
    refine o_run rfl rfl rfl ?_
    first | refine Pstep.go (st_gtr rfl rfl rfl) ?_ | refine Pstep.go (st_gtrS rfl rfl rfl) ?_
    refine Pstep.go (st_pickF rfl rfl rfl rfl) ?_
    refine o_nil ?_
    first | refine a_if rfl (fun h32 => ?_) (fun h32 => ?_) | refine a_cond rfl (fun h32 => ?_) (fun h32 => ?_)
    · refine a_seq ?_
      refine a_region ?_
      refine Pstep.go (st_callP (known_p) rfl rfl) ?_
      refine Pstep.go (st_assign rfl rfl) ?_
      refine o_nil ?_
      refine a_ret ?_
      exact ⟨_, [], [], res_of rfl, rfl, rfl, rfl, rfl⟩
    · refine a_skip ?_
      refine a_seq ?_
      have hb : b.length ≤ 4000 := by have h := h28; omega
      have hkl : ks.length ≤ 40 := by have h := h32; omega
      refine a_region ?_
      refine Estep.go (st_buildSlice 940 sl27 rfl rfl rfl rfl rfl rfl rfl rfl) ?_
      refine Pstep.go (st_move rfl rfl) ?_
      first | refine Estep.go (st_appM ([]) (b) rfl rfl rfl rfl rfl rfl rfl rfl sl27 (by rw [List.length_nil]; omega) rfl rfl rfl rfl) ?_ | refine Estep.go (st_appMD ([]) (b) rfl rfl rfl rfl rfl rfl (fun _ => rfl) sl27 (by rw [List.length_nil]; omega) rfl rfl rfl rfl) ?_
      refine Pstep.go (st_assign rfl rfl) ?_
      refine o_nil ?_
      refine a_seq ?_
      refine a_region ?_
      refine Pstep.go (st_move rfl rfl) ?_
      refine Estep.go (st_callB [940] (newReader_own b (by omega)) (by exact ⟨.inr ⟨_, _, rfl, .own rfl rfl (by simp) (List.take_of_length_le (by simp)), rfl⟩, trivial⟩) [910, 911] ⟨rfl, rfl, trivial⟩ rfl rfl rfl rfl rfl rfl rfl ⟨⟨by intro c hc; simp only [List.mem_cons, List.not_mem_nil, or_false] at hc; rcases hc with rfl | rfl | rfl <;> rfl, trivial⟩, flat_bytes _ _ _⟩ rfl rfl) ?_
      refine o_freezeCM (emb := byteD) 910 0 0 911 b rfl rfl rfl rfl rfl rfl rfl rfl rfl rfl rfl ?_
      refine Pstep.go (st_assign rfl rfl) ?_
      refine o_nil ?_
      refine a_seq ?_
      refine a_seq ?_
      refine a_region ?_
      refine Pstep.go (st_assign rfl rfl) ?_
      refine o_nil ?_
      refine a_block ?_
      refine a_loopP (α := Nat × List UInt8) (fun p => ⟨139, [(0, .d (bytesD b)), (1, .d (bytesD ks)), (2, .d (.raw (.int .i64 mx))), (3, .d (.raw (.bool blob))), (9, (.own 940 0 b.length)), (10, .ptr 910 0 0), (11, (.d (.raw (.int .i64 (p.1 : Int)))))], [(910, [.blk 65 [.d (bytesD b), .d (.raw (.int .i64 0)), .d (.raw (.int .i64 0))]]), (940, [.rowD 5 1 (p.2.map byteD)])]⟩) (fun p => p.1 ≤ b.length ∧ p.2.length = b.length) (fun p => b.length - p.1) ((0, b)) (⟨Nat.zero_le _, rfl⟩) (lep_of hF [910, 940] rfl rfl ⟨rfl, rfl, rfl, rfl, rfl, rfl, rfl, trivial⟩) ?_
      rintro ⟨j, y⟩ ⟨hj0, hy⟩
      dsimp only at hj0 hy ⊢
      refine a_seq ?_
      refine a_seq ?_
      refine a_region ?_
      refine Pstep.go (st_move rfl rfl) ?_
      refine Pstep.go (st_move rfl rfl) ?_
      first | refine Pstep.go (st_lenMap rfl Try.underlying27 rfl) ?_ | refine Pstep.go (st_lenD rfl rfl Try.underlying27 rfl) ?_ | refine Pstep.go (st_lenO rfl Try.underlying27 rfl) ?_ | refine Pstep.go (st_lenSL rfl Try.underlying27 rfl) ?_ | refine Pstep.go (st_lenS rfl Try.underlying27 rfl) ?_
      first | refine Pstep.go (st_lss rfl rfl rfl) ?_ | refine Pstep.go (st_lssS rfl rfl rfl) ?_
      refine o_nil ?_
      first | refine a_if rfl (fun h42 => ?_) (fun h42 => ?_) | refine a_cond rfl (fun h42 => ?_) (fun h42 => ?_)
      · refine a_skip ?_
        refine a_seq ?_
        refine a_block ?_
        refine a_region ?_
        have hj : j < b.length := lt_cast h42
        refine Pstep.go (st_move rfl rfl) ?_
        refine Pstep.go (st_move rfl rfl) ?_
        first | refine Pstep.go (st_indexD (j) rfl rfl (rfl) (hj) Try.underlying27 rfl sz5 rfl) ?_ | refine Pstep.go (st_indexO (j) rfl rfl (rfl) (hj) rfl Try.underlying27 sz5 rfl) ?_
        refine Estep.go (st_storeM (y) (238) rfl rfl rfl rfl rfl rfl (by omega) rfl sz5) ?_
        refine o_nil ?_
        refine a_region ?_
        refine Pstep.go (st_move rfl rfl) ?_
        refine Pstep.go (st_add rfl rfl (IntWalk.i64_in _ (by omega)) rfl) ?_
        refine Pstep.go (st_assign rfl rfl) ?_
        refine o_nil ?_
        exact ⟨(j + 1, y.set j 238), ⟨by show j + 1 ≤ _; omega, by simpa using hy⟩, by show b.length - (j + 1) < b.length - j; omega, lep_of hF [910, 940] rfl (rfl) ⟨rfl, rfl, rfl, rfl, rfl, rfl, rfl, trivial⟩⟩
      · refine a_exit ?_
        refine a_seq ?_
        refine a_region ?_
        refine Pstep.go (st_assign rfl rfl) ?_
        refine Pstep.go (st_assign rfl rfl) ?_
        refine o_nil ?_
        refine a_seq ?_
        refine a_seq ?_
        refine a_region ?_
        refine Pstep.go (st_assign rfl rfl) ?_
        refine o_nil ?_
        refine a_block ?_
        refine a_loopP (α := Nat × RSt) (fun p => ⟨139, [(0, .d (bytesD b)), (1, .d (bytesD ks)), (2, .d (.raw (.int .i64 mx))), (3, .d (.raw (.bool blob))), (10, .ptr 910 0 0), (12, (.d (.raw (.int .i64 (p.2.1 : Int))))), (13, (.d (.raw (.int .i64 (p.2.2 : Int))))), (14, (.d (.raw (.int .i64 (p.1 : Int)))))], rH b p.2.1 p.2.2⟩) (fun p => p.1 ≤ ks.length ∧ p.2.1 ≤ b.length) (fun p => ks.length - p.1) ((0, (0, 0))) (⟨Nat.zero_le _, Nat.zero_le _⟩) (lep_of hF [910] rfl rfl ⟨rfl, rfl, rfl, rfl, rfl, rfl, rfl, rfl, trivial⟩) ?_
        rintro ⟨i, a, e⟩ ⟨hi0, hsl⟩
        dsimp only at hi0 hsl ⊢
        refine a_seq ?_
        refine a_seq ?_
        refine a_region ?_
        refine Pstep.go (st_move rfl rfl) ?_
        refine Pstep.go (st_move rfl rfl) ?_
        first | refine Pstep.go (st_lenMap rfl Try.underlying27 rfl) ?_ | refine Pstep.go (st_lenD rfl rfl Try.underlying27 rfl) ?_ | refine Pstep.go (st_lenO rfl Try.underlying27 rfl) ?_ | refine Pstep.go (st_lenSL rfl Try.underlying27 rfl) ?_ | refine Pstep.go (st_lenS rfl Try.underlying27 rfl) ?_
        first | refine Pstep.go (st_lss rfl rfl rfl) ?_ | refine Pstep.go (st_lssS rfl rfl rfl) ?_
        refine o_nil ?_
        first | refine a_if rfl (fun h51 => ?_) (fun h51 => ?_) | refine a_cond rfl (fun h51 => ?_) (fun h51 => ?_)
        · refine a_skip ?_
          refine a_seq ?_
          refine a_block ?_
          refine a_seq ?_
          refine a_region ?_
          have hi : i < ks.length := lt_cast h51
          obtain ⟨kk, hkk⟩ : ∃ kk : Int, kk = ((ks[i].toNat % 5 : Nat) : Int) := ⟨_, rfl⟩
          have hkb : 0 ≤ kk ∧ kk ≤ 4 := by omega
          have hvl := decV_l mx kk (b.drop a)
          have hvf := decV_fits mx kk (b.drop a)
          rw [List.length_drop] at hvf
          have c1 := take_910 mx h1 h2 b (a, e) kk blob hsl (by omega)
          by_cases hs0 : e = 0
          · refine Pstep.go (st_move rfl rfl) ?_
            subst hs0
            rw [takeV_dec] at c1
            dsimp only at c1
            refine Pstep.go (st_move rfl rfl) ?_
            refine Pstep.go (st_move rfl rfl) ?_
            first | refine Pstep.go (st_indexD (i) rfl rfl (rfl) (getm hi) Try.underlying27 rfl sz5 rfl) ?_ | refine Pstep.go (st_indexO (i) rfl rfl (rfl) (getm hi) rfl Try.underlying27 sz5 rfl) ?_
            first | refine Pstep.go (st_loadD1 rfl rfl on5 rfl) ?_ | refine Pstep.go (st_loadP rfl rfl rfl on5 rfl) ?_ | refine Pstep.go (st_loadR rfl rfl (rfl) rfl on5 rfl) ?_
            refine Pstep.go (st_rem rfl rfl (by omega) (show ((ks[i].toNat : Nat) : Int).tmod 5 = kk by rw [hkk]; rfl) rfl) ?_
            refine Pstep.go (st_conv rfl Try.underlying5 Try.underlying3 (IntWalk.i64_in _ (by omega)) rfl) ?_
            refine Pstep.go (st_move rfl rfl) ?_
            refine Pstep.go (st_move rfl rfl) ?_
            refine Estep.go (st_callD c1 rfl [910] ⟨rfl, trivial⟩ rfl rfl rfl rfl rfl rfl rfl rfl rfl) ?_
            refine Estep.go (st_alloc 2 zl32 rfl rfl rfl rfl) ?_
            refine Estep.go (st_storeP rfl rfl rfl rfl rfl rfl rfl sz32) ?_
            refine o_nil ?_
            refine a_seq ?_
            refine a_region ?_
            refine Pstep.go (st_move rfl rfl) ?_
            refine Pstep.go (st_move rfl rfl) ?_
            first | refine Pstep.go (st_indexD (i) rfl rfl (rfl) (getm hi) Try.underlying27 rfl sz5 rfl) ?_ | refine Pstep.go (st_indexO (i) rfl rfl (rfl) (getm hi) rfl Try.underlying27 sz5 rfl) ?_
            first | refine Pstep.go (st_loadD1 rfl rfl on5 rfl) ?_ | refine Pstep.go (st_loadP rfl rfl rfl on5 rfl) ?_ | refine Pstep.go (st_loadR rfl rfl (rfl) rfl on5 rfl) ?_
            refine Pstep.go (st_rem rfl rfl (by omega) (show ((ks[i].toNat : Nat) : Int).tmod 5 = kk by rw [hkk]; rfl) rfl) ?_
            refine Pstep.go (st_conv rfl Try.underlying5 Try.underlying3 (IntWalk.i64_in _ (by omega)) rfl) ?_
            refine Pstep.go (st_build zl32 pl32 rfl rfl rfl) ?_
            refine o_weakD 70 (.agg [.raw (.int .i64 kk), .raw (.int .u64 0), .raw (.int .i64 0), .raw (.bool false), .raw (.string ⟨#[]⟩), .sl none []]) rfl (fun _ _ _ h => aggNil h) ?_
            refine Estep.go (st_alloc 3 zl32 rfl rfl rfl rfl) ?_
            refine Estep.go (st_storeP rfl rfl rfl rfl rfl rfl rfl sz32) ?_
            refine o_nil ?_
            refine a_seq ?_
            refine a_seq ?_
            refine a_region ?_
            refine Pstep.go (st_move rfl rfl) ?_
            first | refine Pstep.go (st_eql rfl rfl rfl) ?_ | refine Pstep.go (st_eqlSL rfl rfl rfl) ?_ | refine Pstep.go (st_eqlS rfl rfl rfl) ?_ | refine Pstep.go (st_eqlB Try.underlying3 rfl rfl rfl) ?_ | refine Pstep.go (st_eqlP Try.underlying3 rfl rfl rfl) ?_ | refine Pstep.go (st_eqlN Try.underlying3 rfl rfl) ?_ | refine Pstep.go (st_eqlF Try.underlying3 rfl rfl rfl) ?_ | refine Pstep.go (st_eqlFN Try.underlying3 rfl rfl) ?_
            refine o_nil ?_
            refine a_true rfl (rfl) ?_
            refine a_seq ?_
            refine a_drawn [[], [], [0, 1], [0, 1, 2], [0, 1, 2, 3], [0, 1, 2, 3, 4], [], [], [6, 7], [], [0, 1, 2, 3, 4, 5, 6, 7, 8, 9], [0, 1, 2, 3, 4, 5, 6, 7, 8, 9, 10], [0, 1, 2, 3, 4, 5, 6, 7, 8, 9, 10, 11], [0, 1, 2, 3, 4, 5, 6, 7, 8, 9, 10, 11], [0, 1, 2, 3, 4, 5, 6, 7, 8, 9, 10, 11], [], [0, 1, 2, 3, 4, 5, 6, 7, 8, 9, 10, 11, 12, 15], [0, 1, 2, 3, 4, 5, 6, 7, 8, 9, 10, 11, 12, 13, 15, 16], [0, 1, 2, 3, 4, 5, 6, 7, 8, 9, 10, 11, 12, 13, 14, 15, 16, 17]] mixed rfl ?_
            refine dws ?_
            first | refine d_pure [1] [] rfl rfl (fun _ => gp_none (st_move rfl rfl)) ?_ | refine d_pureA [1] rfl rfl (fun _ => gp_none (st_move rfl rfl)) ?_
            first | refine d_pure [14] [] rfl rfl (fun _ => gp_none (st_move rfl rfl)) ?_ | refine d_pureA [14] rfl rfl (fun _ => gp_none (st_move rfl rfl)) ?_
            first | refine d_pure [74, 75] [] rfl rfl (fun _ => gp_none (st_indexD (i) rfl rfl (rfl) (getm hi) Try.underlying27 rfl sz5 rfl)) ?_ | refine d_pureA [74, 75] rfl rfl (fun _ => gp_none (st_indexD (i) rfl rfl (rfl) (getm hi) Try.underlying27 rfl sz5 rfl)) ?_ | refine d_pure [74, 75] [] rfl rfl (fun _ => gp_none (st_indexO (i) rfl rfl (rfl) (getm hi) rfl Try.underlying27 sz5 rfl)) ?_ | refine d_pureA [74, 75] rfl rfl (fun _ => gp_none (st_indexO (i) rfl rfl (rfl) (getm hi) rfl Try.underlying27 sz5 rfl)) ?_
            first | refine d_pure [76] [] rfl rfl (fun _ => gp_none (st_loadD1 rfl rfl on5 rfl)) ?_ | refine d_pureA [76] rfl rfl (fun _ => gp_none (st_loadD1 rfl rfl on5 rfl)) ?_ | refine d_pure [76] [] rfl rfl (fun _ => gp_none (st_loadP rfl rfl rfl on5 rfl)) ?_ | refine d_pureA [76] rfl rfl (fun _ => gp_none (st_loadP rfl rfl rfl on5 rfl)) ?_ | refine d_pure [76] [] rfl rfl (fun _ => gp_none (st_loadR rfl rfl (rfl) rfl on5 rfl)) ?_ | refine d_pureA [76] rfl rfl (fun _ => gp_none (st_loadR rfl rfl (rfl) rfl on5 rfl)) ?_
            first | refine d_pure [77] [] rfl rfl (fun _ => gp_none (st_rem rfl rfl (by omega) (show ((ks[i].toNat : Nat) : Int).tmod 5 = kk by rw [hkk]; rfl) rfl)) ?_ | refine d_pureA [77] rfl rfl (fun _ => gp_none (st_rem rfl rfl (by omega) (show ((ks[i].toNat : Nat) : Int).tmod 5 = kk by rw [hkk]; rfl) rfl)) ?_
            first | refine d_pure [78] [] rfl rfl (fun _ => gp_none (st_conv rfl Try.underlying5 Try.underlying3 (IntWalk.i64_in _ (by omega)) rfl)) ?_ | refine d_pureA [78] rfl rfl (fun _ => gp_none (st_conv rfl Try.underlying5 Try.underlying3 (IntWalk.i64_in _ (by omega)) rfl)) ?_
            first | refine d_pure [0] [] rfl rfl (fun _ => gp_none (st_move rfl rfl)) ?_ | refine d_pureA [0] rfl rfl (fun _ => gp_none (st_move rfl rfl)) ?_
            first | refine d_pure [12] [] rfl rfl (fun _ => gp_none (st_move rfl rfl)) ?_ | refine d_pureA [12] rfl rfl (fun _ => gp_none (st_move rfl rfl)) ?_
            first | refine d_pure [80, 81] [] rfl rfl (fun _ => gp_none (st_sliceLoM (b) (a) rfl rfl rfl (rfl) (hsl) Try.underlying27 sz5 (fun _ => rfl) rfl)) ?_ | refine d_pureA [80, 81] rfl rfl (fun _ => gp_none (st_sliceLoM (b) (a) rfl rfl rfl (rfl) (hsl) Try.underlying27 sz5 (fun _ => rfl) rfl)) ?_
            first | refine d_pure [2] [] rfl rfl (fun _ => gp_none (st_move rfl rfl)) ?_ | refine d_pureA [2] rfl rfl (fun _ => gp_none (st_move rfl rfl)) ?_
            first | refine d_pure [79, 82, 83] [] rfl rfl (fun _ => gp_none (st_callP (read_p mx kk h1 h2 hkb.1 hkb.2 (b.drop a) (by rw [List.length_drop]; omega)) rfl rfl)) ?_ | refine d_pureA [79, 82, 83] rfl rfl (fun _ => gp_none (st_callP (read_p mx kk h1 h2 hkb.1 hkb.2 (b.drop a) (by rw [List.length_drop]; omega)) rfl rfl)) ?_
            first | refine d_pure [84] [] rfl rfl (fun _ => gp_none (st_move rfl rfl)) ?_ | refine d_pureA [84] rfl rfl (fun _ => gp_none (st_move rfl rfl)) ?_
            first | refine d_pure [73] [] rfl rfl (fun _ => gp_none (st_extractD rfl rfl rfl)) ?_ | refine d_pureA [73] rfl rfl (fun _ => gp_none (st_extractD rfl rfl rfl)) ?_ | refine d_pure [73] [] rfl rfl (fun _ => gp_none (st_extract rfl rfl rfl)) ?_ | refine d_pureA [73] rfl rfl (fun _ => gp_none (st_extract rfl rfl rfl)) ?_
            first | refine d_pure [73] [] rfl rfl (fun _ => gp_none (st_extractD rfl rfl rfl)) ?_ | refine d_pureA [73] rfl rfl (fun _ => gp_none (st_extractD rfl rfl rfl)) ?_ | refine d_pure [73] [] rfl rfl (fun _ => gp_none (st_extract rfl rfl rfl)) ?_ | refine d_pureA [73] rfl rfl (fun _ => gp_none (st_extract rfl rfl rfl)) ?_
            first | refine d_pure [73] [] rfl rfl (fun _ => gp_none (st_extractD rfl rfl rfl)) ?_ | refine d_pureA [73] rfl rfl (fun _ => gp_none (st_extractD rfl rfl rfl)) ?_ | refine d_pure [73] [] rfl rfl (fun _ => gp_none (st_extract rfl rfl rfl)) ?_ | refine d_pureA [73] rfl rfl (fun _ => gp_none (st_extract rfl rfl rfl)) ?_
            refine d_eff [] [4] [(17, _)] rfl rfl (fun _ => ge_none (st_alloc 4 zl32 rfl rfl rfl rfl)) (.inr ⟨17, _, rfl, rfl, rfl, rfl, rfl⟩) rfl rfl rfl rfl rfl ?_
            refine d_eff [17, 85] [4] [] rfl rfl (fun _ => ge_none (st_storeP rfl rfl rfl rfl rfl rfl rfl sz32)) (.inl ⟨rfl, rfl⟩) rfl rfl rfl rfl rfl ?_
            first | refine d_pure [86] [] rfl rfl (fun _ => gp_none (st_assign rfl rfl)) ?_ | refine d_pureA [86] rfl rfl (fun _ => gp_none (st_assign rfl rfl)) ?_
            refine dwc 18 rfl rfl rfl ?_
            refine dw1 19 rfl rfl ?_
            refine Pstep.go (st_assign rfl rfl) ?_
            refine o_nil ⟨rfl, ?_⟩
            refine dwe ?_
            refine a_seq ?_
            refine a_region ?_
            refine Pstep.go (st_move rfl rfl) ?_
            refine Pstep.go (st_move rfl rfl) ?_
            refine Pstep.go (st_add rfl rfl (IntWalk.i64_in _ (by omega)) rfl) ?_
            refine Pstep.go (st_move rfl rfl) ?_
            refine Pstep.go (st_assign rfl rfl) ?_
            refine Pstep.go (st_assign rfl rfl) ?_
            refine o_nil ?_
            refine a_seq ?_
            refine a_region ?_
            refine Pstep.go (st_move rfl rfl) ?_
            first | refine Pstep.go (st_eql rfl rfl rfl) ?_ | refine Pstep.go (st_eqlSL rfl rfl rfl) ?_ | refine Pstep.go (st_eqlS rfl rfl rfl) ?_ | refine Pstep.go (st_eqlB Try.underlying3 rfl rfl rfl) ?_ | refine Pstep.go (st_eqlP Try.underlying3 rfl rfl rfl) ?_ | refine Pstep.go (st_eqlN Try.underlying3 rfl rfl) ?_ | refine Pstep.go (st_eqlF Try.underlying3 rfl rfl rfl) ?_ | refine Pstep.go (st_eqlFN Try.underlying3 rfl rfl) ?_
            refine o_nil ?_
            first | refine a_if rfl (fun h93 => ?_) (fun h93 => ?_) | refine a_cond rfl (fun h93 => ?_) (fun h93 => ?_)
            · refine a_region ?_
              first | refine Pstep.go (st_loadDS rfl rfl rw32 rfl) ?_ | refine Pstep.go (st_loadPS rfl rfl rw32 rfl rfl rfl) ?_ | refine Pstep.go (st_loadRS rfl rfl (rfl) rfl rw32 rfl) ?_
              refine Estep.go (st_storeP rfl rfl rfl rfl rfl rfl rfl sz32) ?_
              refine o_nil ?_
              refine a_seq ?_
              refine a_region ?_
              first | refine Pstep.go (st_loadDS rfl rfl rw32 rfl) ?_ | refine Pstep.go (st_loadPS rfl rfl rw32 rfl rfl rfl) ?_ | refine Pstep.go (st_loadRS rfl rfl (rfl) rfl rw32 rfl) ?_
              first | refine Pstep.go (st_loadDS rfl rfl rw32 rfl) ?_ | refine Pstep.go (st_loadPS rfl rfl rw32 rfl rfl rfl) ?_ | refine Pstep.go (st_loadRS rfl rfl (rfl) rfl rw32 rfl) ?_
              refine Pstep.go (st_callP (same_p (decV mx kk (b.drop a)).1 (decV mx kk (b.drop a)).1 (by omega)) rfl rfl) ?_
              first | refine Pstep.go (st_notP rfl rfl) ?_ | refine Pstep.go (st_not rfl rfl) ?_
              refine Pstep.go (st_move rfl rfl) ?_
              refine o_setF 99 rfl (by simp) ?_
              refine o_run rfl rfl rfl ?_
              refine Pstep.go (st_move rfl rfl) ?_
              refine o_run rfl rfl rfl ?_
              refine Estep.go (st_callD (rErr_910 b (a + (decV mx kk (b.drop a)).2.1, (decV mx kk (b.drop a)).2.2)) rfl [910] ⟨rfl, trivial⟩ rfl rfl rfl rfl rfl rfl rfl rfl rfl) ?_
              refine o_run rfl rfl rfl ?_
              refine Pstep.go (st_move rfl rfl) ?_
              refine o_run rfl rfl rfl ?_
              first | refine Pstep.go (st_neq rfl rfl rfl) ?_ | refine Pstep.go (st_neqSL rfl rfl rfl) ?_ | refine Pstep.go (st_neqS rfl rfl rfl) ?_ | refine Pstep.go (st_neqB Try.underlying3 rfl rfl rfl) ?_ | refine Pstep.go (st_neqP Try.underlying3 rfl rfl rfl) ?_ | refine Pstep.go (st_neqN Try.underlying3 rfl rfl) ?_ | refine Pstep.go (st_neqF Try.underlying3 rfl rfl rfl) ?_ | refine Pstep.go (st_neqFN Try.underlying3 rfl rfl) ?_
              refine Pstep.go (st_pickF rfl rfl rfl rfl) ?_
              refine Pstep.go (st_move rfl rfl) ?_
              refine o_setF 105 rfl (by simp) ?_
              refine o_run rfl rfl rfl ?_
              refine Pstep.go (st_move rfl rfl) ?_
              refine o_run rfl rfl rfl ?_
              refine Estep.go (st_callD (rOffset_910 b (a + (decV mx kk (b.drop a)).2.1, (decV mx kk (b.drop a)).2.2)) rfl [910] ⟨rfl, trivial⟩ rfl rfl rfl rfl rfl rfl rfl rfl rfl) ?_
              refine o_run rfl rfl rfl ?_
              refine Pstep.go (st_move rfl rfl) ?_
              refine o_run rfl rfl rfl ?_
              first | refine Pstep.go (st_neq rfl rfl rfl) ?_ | refine Pstep.go (st_neqSL rfl rfl rfl) ?_ | refine Pstep.go (st_neqS rfl rfl rfl) ?_ | refine Pstep.go (st_neqB Try.underlying3 rfl rfl rfl) ?_ | refine Pstep.go (st_neqP Try.underlying3 rfl rfl rfl) ?_ | refine Pstep.go (st_neqN Try.underlying3 rfl rfl) ?_ | refine Pstep.go (st_neqF Try.underlying3 rfl rfl rfl) ?_ | refine Pstep.go (st_neqFN Try.underlying3 rfl rfl) ?_
              refine Pstep.go (st_pickF rfl rfl rfl rfl) ?_
              refine Pstep.go (st_move rfl rfl) ?_
              refine o_setF 111 rfl (by simp) ?_
              refine o_run rfl rfl rfl ?_
              refine Pstep.go (st_move rfl rfl) ?_
              refine o_run rfl rfl rfl ?_
              refine Estep.go (st_callD (rRest_910 b (a + (decV mx kk (b.drop a)).2.1, (decV mx kk (b.drop a)).2.2) (by show a + _ ≤ _; omega) (by omega)) rfl [910] ⟨rfl, trivial⟩ rfl rfl rfl rfl rfl rfl rfl rfl rfl) ?_
              refine o_run rfl rfl rfl ?_
              refine Pstep.go (st_move rfl rfl) ?_
              refine o_run rfl rfl rfl ?_
              first | refine Pstep.go (st_lenMap rfl Try.underlying27 rfl) ?_ | refine Pstep.go (st_lenD rfl rfl Try.underlying27 rfl) ?_ | refine Pstep.go (st_lenO rfl Try.underlying27 rfl) ?_ | refine Pstep.go (st_lenSL rfl Try.underlying27 rfl) ?_ | refine Pstep.go (st_lenS rfl Try.underlying27 rfl) ?_
              refine o_run rfl rfl rfl ?_
              refine Pstep.go (st_move rfl rfl) ?_
              refine o_run rfl rfl rfl ?_
              refine Pstep.go (st_sub rfl rfl (IntWalk.i64_in _ (by omega)) rfl) ?_
              refine o_run rfl rfl rfl ?_
              first | refine Pstep.go (st_neq rfl rfl rfl) ?_ | refine Pstep.go (st_neqSL rfl rfl rfl) ?_ | refine Pstep.go (st_neqS rfl rfl rfl) ?_ | refine Pstep.go (st_neqB Try.underlying3 rfl rfl rfl) ?_ | refine Pstep.go (st_neqP Try.underlying3 rfl rfl rfl) ?_ | refine Pstep.go (st_neqN Try.underlying3 rfl rfl) ?_ | refine Pstep.go (st_neqF Try.underlying3 rfl rfl rfl) ?_ | refine Pstep.go (st_neqFN Try.underlying3 rfl rfl) ?_
              refine Pstep.go (st_pickF rfl rfl rfl rfl) ?_
              refine o_nil ?_
              refine a_false rfl (by simp) ?_
              refine a_skip ?_
              refine a_region ?_
              refine Pstep.go (st_move rfl rfl) ?_
              refine Pstep.go (st_add rfl rfl (IntWalk.i64_in _ (by omega)) rfl) ?_
              refine Pstep.go (st_assign rfl rfl) ?_
              refine o_nil ?_
              exact ⟨(i + 1, (a + (decV mx kk (b.drop a)).2.1, (decV mx kk (b.drop a)).2.2)), ⟨by show i + 1 ≤ _; omega, by show a + _ ≤ _; omega⟩, by show ks.length - (i + 1) < ks.length - i; omega, lep_of hF [910] rfl (rfl) ⟨rfl, rfl, rfl, rfl, rfl, rfl, rfl, rfl, trivial⟩⟩
            · have hve : (decV mx kk (b.drop a)).1 = ⟨kk, 0, 0, false, [], []⟩ := by rw [decV_err (by have h := h93; omega), zeroV_k hkb.1 hkb.2]
              refine a_skip ?_
              refine a_seq ?_
              refine a_region ?_
              first | refine Pstep.go (st_loadDS rfl rfl rw32 rfl) ?_ | refine Pstep.go (st_loadPS rfl rfl rw32 rfl rfl rfl) ?_ | refine Pstep.go (st_loadRS rfl rfl (rfl) rfl rw32 rfl) ?_
              first | refine Pstep.go (st_loadDS rfl rfl rw32 rfl) ?_ | refine Pstep.go (st_loadPS rfl rfl rw32 rfl rfl rfl) ?_ | refine Pstep.go (st_loadRS rfl rfl (rfl) rfl rw32 rfl) ?_
              refine Pstep.go (st_callP (same_p (decV mx kk (b.drop a)).1 ⟨kk, 0, 0, false, [], []⟩ (by omega)) rfl rfl) ?_
              first | refine Pstep.go (st_notP rfl rfl) ?_ | refine Pstep.go (st_not rfl rfl) ?_
              refine Pstep.go (st_move rfl rfl) ?_
              refine o_setF 99 rfl (by simp [hve]) ?_
              refine o_run rfl rfl rfl ?_
              refine Pstep.go (st_move rfl rfl) ?_
              refine o_run rfl rfl rfl ?_
              refine Estep.go (st_callD (rErr_910 b (a + (decV mx kk (b.drop a)).2.1, (decV mx kk (b.drop a)).2.2)) rfl [910] ⟨rfl, trivial⟩ rfl rfl rfl rfl rfl rfl rfl rfl rfl) ?_
              refine o_run rfl rfl rfl ?_
              refine Pstep.go (st_move rfl rfl) ?_
              refine o_run rfl rfl rfl ?_
              first | refine Pstep.go (st_neq rfl rfl rfl) ?_ | refine Pstep.go (st_neqSL rfl rfl rfl) ?_ | refine Pstep.go (st_neqS rfl rfl rfl) ?_ | refine Pstep.go (st_neqB Try.underlying3 rfl rfl rfl) ?_ | refine Pstep.go (st_neqP Try.underlying3 rfl rfl rfl) ?_ | refine Pstep.go (st_neqN Try.underlying3 rfl rfl) ?_ | refine Pstep.go (st_neqF Try.underlying3 rfl rfl rfl) ?_ | refine Pstep.go (st_neqFN Try.underlying3 rfl rfl) ?_
              refine Pstep.go (st_pickF rfl rfl rfl rfl) ?_
              refine Pstep.go (st_move rfl rfl) ?_
              refine o_setF 105 rfl (by simp) ?_
              refine o_run rfl rfl rfl ?_
              refine Pstep.go (st_move rfl rfl) ?_
              refine o_run rfl rfl rfl ?_
              refine Estep.go (st_callD (rOffset_910 b (a + (decV mx kk (b.drop a)).2.1, (decV mx kk (b.drop a)).2.2)) rfl [910] ⟨rfl, trivial⟩ rfl rfl rfl rfl rfl rfl rfl rfl rfl) ?_
              refine o_run rfl rfl rfl ?_
              refine Pstep.go (st_move rfl rfl) ?_
              refine o_run rfl rfl rfl ?_
              first | refine Pstep.go (st_neq rfl rfl rfl) ?_ | refine Pstep.go (st_neqSL rfl rfl rfl) ?_ | refine Pstep.go (st_neqS rfl rfl rfl) ?_ | refine Pstep.go (st_neqB Try.underlying3 rfl rfl rfl) ?_ | refine Pstep.go (st_neqP Try.underlying3 rfl rfl rfl) ?_ | refine Pstep.go (st_neqN Try.underlying3 rfl rfl) ?_ | refine Pstep.go (st_neqF Try.underlying3 rfl rfl rfl) ?_ | refine Pstep.go (st_neqFN Try.underlying3 rfl rfl) ?_
              refine Pstep.go (st_pickF rfl rfl rfl rfl) ?_
              refine Pstep.go (st_move rfl rfl) ?_
              refine o_setF 111 rfl (by simp) ?_
              refine o_run rfl rfl rfl ?_
              refine Pstep.go (st_move rfl rfl) ?_
              refine o_run rfl rfl rfl ?_
              refine Estep.go (st_callD (rRest_910 b (a + (decV mx kk (b.drop a)).2.1, (decV mx kk (b.drop a)).2.2) (by show a + _ ≤ _; omega) (by omega)) rfl [910] ⟨rfl, trivial⟩ rfl rfl rfl rfl rfl rfl rfl rfl rfl) ?_
              refine o_run rfl rfl rfl ?_
              refine Pstep.go (st_move rfl rfl) ?_
              refine o_run rfl rfl rfl ?_
              first | refine Pstep.go (st_lenMap rfl Try.underlying27 rfl) ?_ | refine Pstep.go (st_lenD rfl rfl Try.underlying27 rfl) ?_ | refine Pstep.go (st_lenO rfl Try.underlying27 rfl) ?_ | refine Pstep.go (st_lenSL rfl Try.underlying27 rfl) ?_ | refine Pstep.go (st_lenS rfl Try.underlying27 rfl) ?_
              refine o_run rfl rfl rfl ?_
              refine Pstep.go (st_move rfl rfl) ?_
              refine o_run rfl rfl rfl ?_
              refine Pstep.go (st_sub rfl rfl (IntWalk.i64_in _ (by omega)) rfl) ?_
              refine o_run rfl rfl rfl ?_
              first | refine Pstep.go (st_neq rfl rfl rfl) ?_ | refine Pstep.go (st_neqSL rfl rfl rfl) ?_ | refine Pstep.go (st_neqS rfl rfl rfl) ?_ | refine Pstep.go (st_neqB Try.underlying3 rfl rfl rfl) ?_ | refine Pstep.go (st_neqP Try.underlying3 rfl rfl rfl) ?_ | refine Pstep.go (st_neqN Try.underlying3 rfl rfl) ?_ | refine Pstep.go (st_neqF Try.underlying3 rfl rfl rfl) ?_ | refine Pstep.go (st_neqFN Try.underlying3 rfl rfl) ?_
              refine Pstep.go (st_pickF rfl rfl rfl rfl) ?_
              refine o_nil ?_
              refine a_false rfl (by simp) ?_
              refine a_skip ?_
              refine a_region ?_
              refine Pstep.go (st_move rfl rfl) ?_
              refine Pstep.go (st_add rfl rfl (IntWalk.i64_in _ (by omega)) rfl) ?_
              refine Pstep.go (st_assign rfl rfl) ?_
              refine o_nil ?_
              exact ⟨(i + 1, (a + (decV mx kk (b.drop a)).2.1, (decV mx kk (b.drop a)).2.2)), ⟨by show i + 1 ≤ _; omega, by show a + _ ≤ _; omega⟩, by show ks.length - (i + 1) < ks.length - i; omega, lep_of hF [910] rfl (rfl) ⟨rfl, rfl, rfl, rfl, rfl, rfl, rfl, rfl, trivial⟩⟩
          · refine Pstep.go (st_move rfl rfl) ?_
            rw [takeV_err _ _ _ _ hs0, zeroV_k hkb.1 hkb.2] at c1
            dsimp only at c1
            refine Pstep.go (st_move rfl rfl) ?_
            refine Pstep.go (st_move rfl rfl) ?_
            first | refine Pstep.go (st_indexD (i) rfl rfl (rfl) (getm hi) Try.underlying27 rfl sz5 rfl) ?_ | refine Pstep.go (st_indexO (i) rfl rfl (rfl) (getm hi) rfl Try.underlying27 sz5 rfl) ?_
            first | refine Pstep.go (st_loadD1 rfl rfl on5 rfl) ?_ | refine Pstep.go (st_loadP rfl rfl rfl on5 rfl) ?_ | refine Pstep.go (st_loadR rfl rfl (rfl) rfl on5 rfl) ?_
            refine Pstep.go (st_rem rfl rfl (by omega) (show ((ks[i].toNat : Nat) : Int).tmod 5 = kk by rw [hkk]; rfl) rfl) ?_
            refine Pstep.go (st_conv rfl Try.underlying5 Try.underlying3 (IntWalk.i64_in _ (by omega)) rfl) ?_
            refine Pstep.go (st_move rfl rfl) ?_
            refine Pstep.go (st_move rfl rfl) ?_
            refine Estep.go (st_callD c1 rfl [910] ⟨rfl, trivial⟩ rfl rfl rfl rfl rfl rfl rfl rfl rfl) ?_
            refine Estep.go (st_alloc 5 zl32 rfl rfl rfl rfl) ?_
            refine Estep.go (st_storeP rfl rfl rfl rfl rfl rfl rfl sz32) ?_
            refine o_nil ?_
            refine a_seq ?_
            refine a_region ?_
            refine Pstep.go (st_move rfl rfl) ?_
            refine Pstep.go (st_move rfl rfl) ?_
            first | refine Pstep.go (st_indexD (i) rfl rfl (rfl) (getm hi) Try.underlying27 rfl sz5 rfl) ?_ | refine Pstep.go (st_indexO (i) rfl rfl (rfl) (getm hi) rfl Try.underlying27 sz5 rfl) ?_
            first | refine Pstep.go (st_loadD1 rfl rfl on5 rfl) ?_ | refine Pstep.go (st_loadP rfl rfl rfl on5 rfl) ?_ | refine Pstep.go (st_loadR rfl rfl (rfl) rfl on5 rfl) ?_
            refine Pstep.go (st_rem rfl rfl (by omega) (show ((ks[i].toNat : Nat) : Int).tmod 5 = kk by rw [hkk]; rfl) rfl) ?_
            refine Pstep.go (st_conv rfl Try.underlying5 Try.underlying3 (IntWalk.i64_in _ (by omega)) rfl) ?_
            refine Pstep.go (st_build zl32 pl32 rfl rfl rfl) ?_
            refine o_weakD 70 (.agg [.raw (.int .i64 kk), .raw (.int .u64 0), .raw (.int .i64 0), .raw (.bool false), .raw (.string ⟨#[]⟩), .sl none []]) rfl (fun _ _ _ h => aggNil h) ?_
            refine Estep.go (st_alloc 6 zl32 rfl rfl rfl rfl) ?_
            refine Estep.go (st_storeP rfl rfl rfl rfl rfl rfl rfl sz32) ?_
            refine o_nil ?_
            refine a_seq ?_
            refine a_seq ?_
            refine a_region ?_
            refine Pstep.go (st_move rfl rfl) ?_
            first | refine Pstep.go (st_eql rfl rfl rfl) ?_ | refine Pstep.go (st_eqlSL rfl rfl rfl) ?_ | refine Pstep.go (st_eqlS rfl rfl rfl) ?_ | refine Pstep.go (st_eqlB Try.underlying3 rfl rfl rfl) ?_ | refine Pstep.go (st_eqlP Try.underlying3 rfl rfl rfl) ?_ | refine Pstep.go (st_eqlN Try.underlying3 rfl rfl) ?_ | refine Pstep.go (st_eqlF Try.underlying3 rfl rfl rfl) ?_ | refine Pstep.go (st_eqlFN Try.underlying3 rfl rfl) ?_
            refine o_nil ?_
            refine a_false rfl (decide_eq_false (by omega)) ?_
            refine a_skip ?_
            refine a_seq ?_
            refine a_region ?_
            first | refine Pstep.go (st_loadDS rfl rfl rw32 rfl) ?_ | refine Pstep.go (st_loadPS rfl rfl rw32 rfl rfl rfl) ?_ | refine Pstep.go (st_loadRS rfl rfl (rfl) rfl rw32 rfl) ?_
            first | refine Pstep.go (st_loadDS rfl rfl rw32 rfl) ?_ | refine Pstep.go (st_loadPS rfl rfl rw32 rfl rfl rfl) ?_ | refine Pstep.go (st_loadRS rfl rfl (rfl) rfl rw32 rfl) ?_
            refine Pstep.go (st_callP (same_p ⟨kk, 0, 0, false, [], []⟩ ⟨kk, 0, 0, false, [], []⟩ (Nat.zero_le _)) rfl rfl) ?_
            first | refine Pstep.go (st_notP rfl rfl) ?_ | refine Pstep.go (st_not rfl rfl) ?_
            refine Pstep.go (st_move rfl rfl) ?_
            refine o_setF 99 rfl (by simp) ?_
            refine o_run rfl rfl rfl ?_
            refine Pstep.go (st_move rfl rfl) ?_
            refine o_run rfl rfl rfl ?_
            refine Estep.go (st_callD (rErr_910 b (a, e)) rfl [910] ⟨rfl, trivial⟩ rfl rfl rfl rfl rfl rfl rfl rfl rfl) ?_
            refine o_run rfl rfl rfl ?_
            refine Pstep.go (st_move rfl rfl) ?_
            refine o_run rfl rfl rfl ?_
            first | refine Pstep.go (st_neq rfl rfl rfl) ?_ | refine Pstep.go (st_neqSL rfl rfl rfl) ?_ | refine Pstep.go (st_neqS rfl rfl rfl) ?_ | refine Pstep.go (st_neqB Try.underlying3 rfl rfl rfl) ?_ | refine Pstep.go (st_neqP Try.underlying3 rfl rfl rfl) ?_ | refine Pstep.go (st_neqN Try.underlying3 rfl rfl) ?_ | refine Pstep.go (st_neqF Try.underlying3 rfl rfl rfl) ?_ | refine Pstep.go (st_neqFN Try.underlying3 rfl rfl) ?_
            refine Pstep.go (st_pickF rfl rfl rfl rfl) ?_
            refine Pstep.go (st_move rfl rfl) ?_
            refine o_setF 105 rfl (by simp) ?_
            refine o_run rfl rfl rfl ?_
            refine Pstep.go (st_move rfl rfl) ?_
            refine o_run rfl rfl rfl ?_
            refine Estep.go (st_callD (rOffset_910 b (a, e)) rfl [910] ⟨rfl, trivial⟩ rfl rfl rfl rfl rfl rfl rfl rfl rfl) ?_
            refine o_run rfl rfl rfl ?_
            refine Pstep.go (st_move rfl rfl) ?_
            refine o_run rfl rfl rfl ?_
            first | refine Pstep.go (st_neq rfl rfl rfl) ?_ | refine Pstep.go (st_neqSL rfl rfl rfl) ?_ | refine Pstep.go (st_neqS rfl rfl rfl) ?_ | refine Pstep.go (st_neqB Try.underlying3 rfl rfl rfl) ?_ | refine Pstep.go (st_neqP Try.underlying3 rfl rfl rfl) ?_ | refine Pstep.go (st_neqN Try.underlying3 rfl rfl) ?_ | refine Pstep.go (st_neqF Try.underlying3 rfl rfl rfl) ?_ | refine Pstep.go (st_neqFN Try.underlying3 rfl rfl) ?_
            refine Pstep.go (st_pickF rfl rfl rfl rfl) ?_
            refine Pstep.go (st_move rfl rfl) ?_
            refine o_setF 111 rfl (by simp) ?_
            refine o_run rfl rfl rfl ?_
            refine Pstep.go (st_move rfl rfl) ?_
            refine o_run rfl rfl rfl ?_
            refine Estep.go (st_callD (rRest_910 b (a, e) hsl (by omega)) rfl [910] ⟨rfl, trivial⟩ rfl rfl rfl rfl rfl rfl rfl rfl rfl) ?_
            refine o_run rfl rfl rfl ?_
            refine Pstep.go (st_move rfl rfl) ?_
            refine o_run rfl rfl rfl ?_
            first | refine Pstep.go (st_lenMap rfl Try.underlying27 rfl) ?_ | refine Pstep.go (st_lenD rfl rfl Try.underlying27 rfl) ?_ | refine Pstep.go (st_lenO rfl Try.underlying27 rfl) ?_ | refine Pstep.go (st_lenSL rfl Try.underlying27 rfl) ?_ | refine Pstep.go (st_lenS rfl Try.underlying27 rfl) ?_
            refine o_run rfl rfl rfl ?_
            refine Pstep.go (st_move rfl rfl) ?_
            refine o_run rfl rfl rfl ?_
            refine Pstep.go (st_sub rfl rfl (IntWalk.i64_in _ (by omega)) rfl) ?_
            refine o_run rfl rfl rfl ?_
            first | refine Pstep.go (st_neq rfl rfl rfl) ?_ | refine Pstep.go (st_neqSL rfl rfl rfl) ?_ | refine Pstep.go (st_neqS rfl rfl rfl) ?_ | refine Pstep.go (st_neqB Try.underlying3 rfl rfl rfl) ?_ | refine Pstep.go (st_neqP Try.underlying3 rfl rfl rfl) ?_ | refine Pstep.go (st_neqN Try.underlying3 rfl rfl) ?_ | refine Pstep.go (st_neqF Try.underlying3 rfl rfl rfl) ?_ | refine Pstep.go (st_neqFN Try.underlying3 rfl rfl) ?_
            refine Pstep.go (st_pickF rfl rfl rfl rfl) ?_
            refine o_nil ?_
            refine a_false rfl (by simp) ?_
            refine a_skip ?_
            refine a_region ?_
            refine Pstep.go (st_move rfl rfl) ?_
            refine Pstep.go (st_add rfl rfl (IntWalk.i64_in _ (by omega)) rfl) ?_
            refine Pstep.go (st_assign rfl rfl) ?_
            refine o_nil ?_
            exact ⟨(i + 1, (a, e)), ⟨by show i + 1 ≤ _; omega, hsl⟩, by show ks.length - (i + 1) < ks.length - i; omega, lep_of hF [910] rfl (rfl) ⟨rfl, rfl, rfl, rfl, rfl, rfl, rfl, rfl, trivial⟩⟩
        · refine a_exit ?_
          refine a_seq ?_
          refine a_region ?_
          refine Pstep.go (st_move rfl rfl) ?_
          refine Pstep.go (st_assign rfl rfl) ?_
          refine o_nil ?_
          refine a_seq ?_
          refine a_seq ?_
          refine a_region ?_
          refine Pstep.go (st_move rfl rfl) ?_
          first | refine Pstep.go (st_eql rfl rfl rfl) ?_ | refine Pstep.go (st_eqlSL rfl rfl rfl) ?_ | refine Pstep.go (st_eqlS rfl rfl rfl) ?_ | refine Pstep.go (st_eqlB Try.underlying3 rfl rfl rfl) ?_ | refine Pstep.go (st_eqlP Try.underlying3 rfl rfl rfl) ?_ | refine Pstep.go (st_eqlN Try.underlying3 rfl rfl) ?_ | refine Pstep.go (st_eqlF Try.underlying3 rfl rfl rfl) ?_ | refine Pstep.go (st_eqlFN Try.underlying3 rfl rfl) ?_
          refine Pstep.go (st_move rfl rfl) ?_
          first | refine o_splitP 123 rfl (fun h123 => ?_) (fun h123 => ?_) | refine o_splitB 123 rfl (fun h123 => ?_) (fun h123 => ?_)
          · refine o_run rfl rfl rfl ?_
            refine Pstep.go (st_move rfl rfl) ?_
            refine o_run rfl rfl rfl ?_
            refine Pstep.go (st_move rfl rfl) ?_
            refine o_run rfl rfl rfl ?_
            first | refine Pstep.go (st_lenMap rfl Try.underlying27 rfl) ?_ | refine Pstep.go (st_lenD rfl rfl Try.underlying27 rfl) ?_ | refine Pstep.go (st_lenO rfl Try.underlying27 rfl) ?_ | refine Pstep.go (st_lenSL rfl Try.underlying27 rfl) ?_ | refine Pstep.go (st_lenS rfl Try.underlying27 rfl) ?_
            refine o_run rfl rfl rfl ?_
            first | refine Pstep.go (st_lss rfl rfl rfl) ?_ | refine Pstep.go (st_lssS rfl rfl rfl) ?_
            refine Pstep.go (st_pickT rfl rfl rfl rfl) ?_
            refine o_nil ?_
            first | refine a_if rfl (fun h128 => ?_) (fun h128 => ?_) | refine a_cond rfl (fun h128 => ?_) (fun h128 => ?_)
            · refine a_region ?_
              refine Pstep.go (st_assign rfl rfl) ?_
              refine o_nil ?_
              refine a_seq ?_
              refine a_region ?_
              refine Pstep.go (st_move rfl rfl) ?_
              refine Estep.go (st_callD (rEnd_910 b (a, e) hsl (by omega)) rfl [910] ⟨rfl, trivial⟩ rfl rfl rfl rfl rfl rfl rfl rfl rfl) ?_
              refine Pstep.go (st_move rfl rfl) ?_
              first | refine Pstep.go (st_eql rfl rfl rfl) ?_ | refine Pstep.go (st_eqlSL rfl rfl rfl) ?_ | refine Pstep.go (st_eqlS rfl rfl rfl) ?_ | refine Pstep.go (st_eqlB Try.underlying3 rfl rfl rfl) ?_ | refine Pstep.go (st_eqlP Try.underlying3 rfl rfl rfl) ?_ | refine Pstep.go (st_eqlN Try.underlying3 rfl rfl) ?_ | refine Pstep.go (st_eqlF Try.underlying3 rfl rfl rfl) ?_ | refine Pstep.go (st_eqlFN Try.underlying3 rfl rfl) ?_
              refine Pstep.go (st_move rfl rfl) ?_
              refine o_setT 133 rfl (decide_eq_true (by first | (have g1 := h123; have g2 := h128; dsimp only; rw [if_pos (by omega), if_neg (by omega)]; rfl) | (have g1 := h123; have g2 := h128; dsimp only; rw [if_pos (by omega), if_pos (by omega)]; omega) | (have g1 := h123; dsimp only; rw [if_neg (by omega)]))) ?_
              refine o_run rfl rfl rfl ?_
              refine Pstep.go (st_move rfl rfl) ?_
              refine o_run rfl rfl rfl ?_
              refine Estep.go (st_callD (rErr_910 b (a, e)) rfl [910] ⟨rfl, trivial⟩ rfl rfl rfl rfl rfl rfl rfl rfl rfl) ?_
              refine o_run rfl rfl rfl ?_
              refine Pstep.go (st_move rfl rfl) ?_
              refine o_run rfl rfl rfl ?_
              first | refine Pstep.go (st_eql rfl rfl rfl) ?_ | refine Pstep.go (st_eqlSL rfl rfl rfl) ?_ | refine Pstep.go (st_eqlS rfl rfl rfl) ?_ | refine Pstep.go (st_eqlB Try.underlying3 rfl rfl rfl) ?_ | refine Pstep.go (st_eqlP Try.underlying3 rfl rfl rfl) ?_ | refine Pstep.go (st_eqlN Try.underlying3 rfl rfl) ?_ | refine Pstep.go (st_eqlF Try.underlying3 rfl rfl rfl) ?_ | refine Pstep.go (st_eqlFN Try.underlying3 rfl rfl) ?_
              refine Pstep.go (st_pickT rfl rfl rfl rfl) ?_
              refine Pstep.go (st_assign rfl rfl) ?_
              refine o_nil ?_
              refine a_ret ?_
              exact ⟨_, [], [], res_of rfl, rfl, rfl, by simp, rfl⟩
            · refine a_skip ?_
              refine a_seq ?_
              refine a_region ?_
              refine Pstep.go (st_move rfl rfl) ?_
              refine Estep.go (st_callD (rEnd_910 b (a, e) hsl (by omega)) rfl [910] ⟨rfl, trivial⟩ rfl rfl rfl rfl rfl rfl rfl rfl rfl) ?_
              refine Pstep.go (st_move rfl rfl) ?_
              first | refine Pstep.go (st_eql rfl rfl rfl) ?_ | refine Pstep.go (st_eqlSL rfl rfl rfl) ?_ | refine Pstep.go (st_eqlS rfl rfl rfl) ?_ | refine Pstep.go (st_eqlB Try.underlying3 rfl rfl rfl) ?_ | refine Pstep.go (st_eqlP Try.underlying3 rfl rfl rfl) ?_ | refine Pstep.go (st_eqlN Try.underlying3 rfl rfl) ?_ | refine Pstep.go (st_eqlF Try.underlying3 rfl rfl rfl) ?_ | refine Pstep.go (st_eqlFN Try.underlying3 rfl rfl) ?_
              refine Pstep.go (st_move rfl rfl) ?_
              refine o_setT 133 rfl (decide_eq_true (by first | (have g1 := h123; have g2 := h128; dsimp only; rw [if_pos (by omega), if_neg (by omega)]; rfl) | (have g1 := h123; have g2 := h128; dsimp only; rw [if_pos (by omega), if_pos (by omega)]; omega) | (have g1 := h123; dsimp only; rw [if_neg (by omega)]))) ?_
              refine o_run rfl rfl rfl ?_
              refine Pstep.go (st_move rfl rfl) ?_
              refine o_run rfl rfl rfl ?_
              refine Estep.go (st_callD (rErr_910 b (a, e)) rfl [910] ⟨rfl, trivial⟩ rfl rfl rfl rfl rfl rfl rfl rfl rfl) ?_
              refine o_run rfl rfl rfl ?_
              refine Pstep.go (st_move rfl rfl) ?_
              refine o_run rfl rfl rfl ?_
              first | refine Pstep.go (st_eql rfl rfl rfl) ?_ | refine Pstep.go (st_eqlSL rfl rfl rfl) ?_ | refine Pstep.go (st_eqlS rfl rfl rfl) ?_ | refine Pstep.go (st_eqlB Try.underlying3 rfl rfl rfl) ?_ | refine Pstep.go (st_eqlP Try.underlying3 rfl rfl rfl) ?_ | refine Pstep.go (st_eqlN Try.underlying3 rfl rfl) ?_ | refine Pstep.go (st_eqlF Try.underlying3 rfl rfl rfl) ?_ | refine Pstep.go (st_eqlFN Try.underlying3 rfl rfl) ?_
              refine Pstep.go (st_pickT rfl rfl rfl rfl) ?_
              refine Pstep.go (st_assign rfl rfl) ?_
              refine o_nil ?_
              refine a_ret ?_
              exact ⟨_, [], [], res_of rfl, rfl, rfl, by simp, rfl⟩
          · refine o_pass rfl rfl rfl rfl ?_
            refine o_pass rfl rfl rfl rfl ?_
            refine o_pass rfl rfl rfl rfl ?_
            refine o_pass rfl rfl rfl rfl ?_
            refine Pstep.go (st_pickF rfl rfl rfl rfl) ?_
            refine o_nil ?_
            refine a_false rfl rfl ?_
            refine a_skip ?_
            refine a_seq ?_
            refine a_region ?_
            refine Pstep.go (st_move rfl rfl) ?_
            refine Estep.go (st_callD (rEnd_910 b (a, e) hsl (by omega)) rfl [910] ⟨rfl, trivial⟩ rfl rfl rfl rfl rfl rfl rfl rfl rfl) ?_
            refine Pstep.go (st_move rfl rfl) ?_
            first | refine Pstep.go (st_eql rfl rfl rfl) ?_ | refine Pstep.go (st_eqlSL rfl rfl rfl) ?_ | refine Pstep.go (st_eqlS rfl rfl rfl) ?_ | refine Pstep.go (st_eqlB Try.underlying3 rfl rfl rfl) ?_ | refine Pstep.go (st_eqlP Try.underlying3 rfl rfl rfl) ?_ | refine Pstep.go (st_eqlN Try.underlying3 rfl rfl) ?_ | refine Pstep.go (st_eqlF Try.underlying3 rfl rfl rfl) ?_ | refine Pstep.go (st_eqlFN Try.underlying3 rfl rfl) ?_
            refine Pstep.go (st_move rfl rfl) ?_
            refine o_setT 133 rfl (decide_eq_true (by first | (have g1 := h123; have g2 := h128; dsimp only; rw [if_pos (by omega), if_neg (by omega)]; rfl) | (have g1 := h123; have g2 := h128; dsimp only; rw [if_pos (by omega), if_pos (by omega)]; omega) | (have g1 := h123; dsimp only; rw [if_neg (by omega)]))) ?_
            refine o_run rfl rfl rfl ?_
            refine Pstep.go (st_move rfl rfl) ?_
            refine o_run rfl rfl rfl ?_
            refine Estep.go (st_callD (rErr_910 b (a, e)) rfl [910] ⟨rfl, trivial⟩ rfl rfl rfl rfl rfl rfl rfl rfl rfl) ?_
            refine o_run rfl rfl rfl ?_
            refine Pstep.go (st_move rfl rfl) ?_
            refine o_run rfl rfl rfl ?_
            first | refine Pstep.go (st_eql rfl rfl rfl) ?_ | refine Pstep.go (st_eqlSL rfl rfl rfl) ?_ | refine Pstep.go (st_eqlS rfl rfl rfl) ?_ | refine Pstep.go (st_eqlB Try.underlying3 rfl rfl rfl) ?_ | refine Pstep.go (st_eqlP Try.underlying3 rfl rfl rfl) ?_ | refine Pstep.go (st_eqlN Try.underlying3 rfl rfl) ?_ | refine Pstep.go (st_eqlF Try.underlying3 rfl rfl rfl) ?_ | refine Pstep.go (st_eqlFN Try.underlying3 rfl rfl) ?_
            refine Pstep.go (st_pickT rfl rfl rfl rfl) ?_
            refine Pstep.go (st_assign rfl rfl) ?_
            refine o_nil ?_
            refine a_ret ?_
            exact ⟨_, [], [], res_of rfl, rfl, rfl, by simp, rfl⟩
end Go.Proofs.Ytjbghmlofjkcfaa
