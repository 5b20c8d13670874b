/- The walk of CodecCanonical. -/
import Derived.Test.YtjbghmlofjkcfaaLawC4
namespace Go.Proofs.Ytjbghmlofjkcfaa
open Go.RowKit

theorem decL_err (n : Nat) : ∀ t, ¬ (decL n t).2.2 = 0 → (decL n t).1 = [] := by
  induction n with
  | zero => intro t h; exact absurd rfl h
  | succ n ih =>
    intro t h
    rw [decL] at h ⊢
    split
    · split
      · rename_i q1 q2; rw [if_pos q1, if_pos q2] at h; exact absurd rfl h
      · rfl
    · rfl
/-- A value that wasn't read is empty. -/
theorem decV_err {mx k : Int} {t : List UInt8} (h : ¬ (decV mx k t).2.2 = 0) : (decV mx k t).1 = zeroV k := by
  unfold zeroV
  unfold decV at h ⊢
  by_cases e0 : k = 0
  · rw [if_pos e0] at h ⊢; rw [if_pos (.inl e0), e0, rdU_clean t h]
  rw [if_neg e0] at h ⊢
  by_cases e1 : k = 1
  · rw [if_pos e1] at h ⊢; rw [if_pos (.inr (.inl e1)), e1, rdU_clean t h]; show (⟨1, 0, unzz 0, false, [], []⟩ : CV) = _; rw [show unzz 0 = 0 by decide]
  rw [if_neg e1] at h ⊢
  by_cases e2 : k = 2
  · rw [if_pos e2] at h ⊢; rw [if_pos (.inr (.inr (.inl e2))), e2, decB_clean t h]
  rw [if_neg e2] at h ⊢
  by_cases e3 : k = 3
  · rw [if_pos e3] at h ⊢; rw [if_pos (.inr (.inr (.inr e3))), e3, decS_clean t h]
  rw [if_neg e3] at h ⊢
  have hk : ¬ (k = 0 ∨ k = 1 ∨ k = 2 ∨ k = 3) := by omega
  rw [if_neg hk]
  split at h
  · rename_i hn; rw [if_pos hn, decL_err _ _ h]
  · rename_i hn; rw [if_neg hn]
theorem zeroV_ok (k : Int) : VOk (zeroV k) := ⟨by show 0 < 18446744073709551616; omega, by show (-9223372036854775808 : Int) ≤ 0; omega, by show (0 : Int) ≤ 9223372036854775807; omega, Nat.zero_le _, Nat.zero_le _, Nat.zero_le _⟩
theorem zeroV_len (k : Int) : (enc (pureC (zeroV k))).length ≤ 5000 := by
  have h0 := uv_len10 (show 0 < 18446744073709551616 by omega)
  have hz : zz 0 = 0 := by decide
  rcases kinds (zeroV k) with ⟨_, h⟩ | ⟨_, h⟩ | ⟨_, h⟩ | ⟨_, h⟩ | ⟨_, k0, k1, k2, k3⟩
  · rw [encP0 h]; show (uv 0).length ≤ 5000; omega
  · rw [encP1 h]; show (uv (zz 0)).length ≤ 5000; rw [hz]; omega
  · rw [encP2 h]; show 1 ≤ 5000; omega
  · rw [encP3 h]; show (uv 0 ++ []).length ≤ 5000; rw [List.append_nil]; omega
  · rw [encP4 k0 k1 k2 k3]; show (uv 0 ++ []).length ≤ 5000; rw [List.append_nil]; omega
theorem canStep {b : List UInt8} (hb : b.length ≤ 4000) {k : Int} (hk0 : 0 ≤ k) (hk4 : k ≤ 4) {s : RSt} :
    VOk (takeV 4000 b k s).1 ∧ (enc (pureC (takeV 4000 b k s).1)).length ≤ 5000 ∧ ((takeV 4000 b k s).2.2 = 0 → s.2 = 0 ∧ b.take (takeV 4000 b k s).2.1 = b.take s.1 ++ enc (pureC (takeV 4000 b k s).1)) := by
  obtain ⟨a, e⟩ := s
  by_cases e0 : e = 0
  · subst e0
    rw [takeV_dec]
    dsimp only
    by_cases h : (decV 4000 k (b.drop a)).2.2 = 0
    · obtain ⟨h1, h2, h3⟩ := decV_can (by omega) hk0 hk4 (by rw [List.length_drop]; omega) h
      rw [h2]
      refine ⟨h3, by rw [← h1, List.length_take, List.length_drop]; omega, fun _ => ⟨rfl, by rw [List.take_add, h1]⟩⟩
    · rw [decV_err h]
      exact ⟨zeroV_ok k, zeroV_len k, fun h2 => absurd h2 h⟩
  · rw [takeV_err _ _ _ _ e0]
    exact ⟨zeroV_ok k, zeroV_len k, fun h2 => absurd h2 e0⟩
set_option maxHeartbeats 2000000 in
theorem canonical_p (b ks : List UInt8) (hb0 : b.length ≤ 140737488351232) (hk0 : ks.length ≤ 140737488351232) : PCalls Try.prog 8 [.d (bytesD b), .d (bytesD ks)] (.raw (.bool true)) := by
  refine a_enter Try.func8 rfl rfl Try.ntmps8 rfl rfl rfl fun F hF => ?_
  refine a_seq ?_
  refine a_region ?_
  refine Pstep.go (st_assign rfl rfl) ?_
  refine o_nil ?_
  refine a_seq ?_
  refine a_seq ?_
  refine a_region ?_
  refine Pstep.go (st_callP (known_p) rfl rfl) ?_
  first | refine Pstep.go (st_notP rfl rfl) ?_ | refine Pstep.go (st_not rfl rfl) ?_
  refine Pstep.go (st_move rfl rfl) ?_
  refine o_setF 10 rfl (rfl) ?_
  refine o_run rfl rfl rfl ?_
  refine Pstep.go (st_move rfl rfl) ?_
  refine o_run rfl rfl rfl ?_
  first | refine Pstep.go (st_lenMap rfl Try.underlying27 rfl) ?_ | refine Pstep.go (st_lenD rfl rfl Try.underlying27 rfl) ?_ | refine Pstep.go (st_lenO rfl Try.underlying27 rfl) ?_ | refine Pstep.go (st_lenSL rfl Try.underlying27 rfl) ?_ | refine Pstep.go (st_lenS rfl Try.underlying27 rfl) ?_
  refine o_run rfl rfl rfl ?_
  first | refine Pstep.go (st_gtr rfl rfl rfl) ?_ | refine Pstep.go (st_gtrS rfl rfl rfl) ?_
  refine Pstep.go (st_pickF rfl rfl rfl rfl) ?_
  refine Pstep.go (st_move rfl rfl) ?_
  first | refine o_splitP 15 rfl (fun h15 => ?_) (fun h15 => ?_) | refine o_splitB 15 rfl (fun h15 => ?_) (fun h15 => ?_)
  · refine o_pass rfl rfl rfl rfl ?_
    refine o_pass rfl rfl rfl rfl ?_
    refine o_pass rfl rfl rfl rfl ?_
    refine Pstep.go (st_pickT rfl rfl rfl rfl) ?_
    refine o_nil ?_
    refine a_true rfl rfl ?_
    refine a_seq ?_
    refine a_region ?_
    refine Pstep.go (st_callP (known_p) rfl rfl) ?_
    refine Pstep.go (st_assign rfl rfl) ?_
    refine o_nil ?_
    refine a_ret ?_
    exact ⟨_, [], [], res_of rfl, rfl, rfl, rfl, rfl⟩
  · refine o_run rfl rfl rfl ?_
    refine Pstep.go (st_move rfl rfl) ?_
    refine o_run rfl rfl rfl ?_
    first | refine Pstep.go (st_lenMap rfl Try.underlying27 rfl) ?_ | refine Pstep.go (st_lenD rfl rfl Try.underlying27 rfl) ?_ | refine Pstep.go (st_lenO rfl Try.underlying27 rfl) ?_ | refine Pstep.go (st_lenSL rfl Try.underlying27 rfl) ?_ | refine Pstep.go (st_lenS rfl Try.underlying27 rfl) ?_
    refine o_run rfl rfl rfl ?_
    first | refine Pstep.go (st_gtr rfl rfl rfl) ?_ | refine Pstep.go (st_gtrS rfl rfl rfl) ?_
    refine Pstep.go (st_pickF rfl rfl rfl rfl) ?_
    refine o_nil ?_
    first | refine a_if rfl (fun h19 => ?_) (fun h19 => ?_) | refine a_cond rfl (fun h19 => ?_) (fun h19 => ?_)
    · refine a_seq ?_
      refine a_region ?_
      refine Pstep.go (st_callP (known_p) rfl rfl) ?_
      refine Pstep.go (st_assign rfl rfl) ?_
      refine o_nil ?_
      refine a_ret ?_
      exact ⟨_, [], [], res_of rfl, rfl, rfl, rfl, rfl⟩
    · refine a_skip ?_
      refine a_seq ?_
      have hb : b.length ≤ 4000 := by have h := h15; omega
      have hkl : ks.length ≤ 40 := by have h := h19; omega
      refine a_region ?_
      refine Pstep.go (st_move rfl rfl) ?_
      refine Estep.go (st_callD (newReader_p b (by omega)) rfl [910] ⟨rfl, trivial⟩ rfl rfl rfl rfl rfl rfl rfl rfl rfl) ?_
      refine Pstep.go (st_assign rfl rfl) ?_
      refine o_nil ?_
      refine a_seq ?_
      refine a_region ?_
      refine Estep.go (st_callD newWriter_900 rfl [900, 901] ⟨rfl, rfl, trivial⟩ rfl rfl rfl rfl rfl rfl rfl rfl rfl) ?_
      refine Pstep.go (st_assign rfl rfl) ?_
      refine o_nil ?_
      refine a_seq ?_
      refine a_seq ?_
      refine a_region ?_
      refine Pstep.go (st_assign rfl rfl) ?_
      refine o_nil ?_
      refine a_block ?_
      refine a_loopP (α := Nat × RSt × List UInt8) (fun p => ⟨51, [(0, .d (bytesD b)), (1, .d (bytesD ks)), (5, .ptr 910 0 0), (6, .ptr 900 0 0), (7, (.d (.raw (.int .i64 (p.1 : Int)))))], [(900, [.blk 63 [.own 901 0 p.2.2.length]]), (901, [.rowD 5 1 (p.2.2.map byteD)]), (910, [.blk 65 [.d (bytesD b), .d (.raw (.int .i64 (p.2.1.1 : Int))), .d (.raw (.int .i64 (p.2.1.2 : Int)))]])]⟩) (fun p => p.1 ≤ ks.length ∧ p.2.1.1 ≤ b.length ∧ (p.2.1.2 = 0 → p.2.2 = b.take p.2.1.1) ∧ p.2.2.length ≤ 5000 * p.1) (fun p => ks.length - p.1) ((0, (0, 0), [])) (⟨Nat.zero_le _, Nat.zero_le _, fun _ => rfl, by show 0 ≤ _; omega⟩) (lep_of hF [900, 901, 910] rfl rfl ⟨rfl, rfl, rfl, rfl, rfl, trivial⟩) ?_
      rintro ⟨k, s, z⟩ ⟨hk0, hsl, hz, hzl⟩
      dsimp only at hk0 hsl hz hzl ⊢
      refine a_seq ?_
      refine a_seq ?_
      refine a_region ?_
      refine Pstep.go (st_move rfl rfl) ?_
      refine Pstep.go (st_move rfl rfl) ?_
      first | refine Pstep.go (st_lenMap rfl Try.underlying27 rfl) ?_ | refine Pstep.go (st_lenD rfl rfl Try.underlying27 rfl) ?_ | refine Pstep.go (st_lenO rfl Try.underlying27 rfl) ?_ | refine Pstep.go (st_lenSL rfl Try.underlying27 rfl) ?_ | refine Pstep.go (st_lenS rfl Try.underlying27 rfl) ?_
      first | refine Pstep.go (st_lss rfl rfl rfl) ?_ | refine Pstep.go (st_lssS rfl rfl rfl) ?_
      refine o_nil ?_
      first | refine a_if rfl (fun h27 => ?_) (fun h27 => ?_) | refine a_cond rfl (fun h27 => ?_) (fun h27 => ?_)
      · refine a_skip ?_
        refine a_seq ?_
        refine a_block ?_
        refine a_region ?_
        have hk : k < ks.length := lt_cast h27
        have hc := canStep hb (k := ((ks[k].toNat % 5 : Nat) : Int)) (by omega) (by omega) (s := s)
        refine Pstep.go (st_move rfl rfl) ?_
        refine Pstep.go (st_move rfl rfl) ?_
        refine Pstep.go (st_move rfl rfl) ?_
        refine Pstep.go (st_move rfl rfl) ?_
        first | refine Pstep.go (st_indexD (k) rfl rfl (rfl) (getm hk) Try.underlying27 rfl sz5 rfl) ?_ | refine Pstep.go (st_indexO (k) rfl rfl (rfl) (getm hk) rfl Try.underlying27 sz5 rfl) ?_
        first | refine Pstep.go (st_loadD1 rfl rfl on5 rfl) ?_ | refine Pstep.go (st_loadP rfl rfl rfl on5 rfl) ?_ | refine Pstep.go (st_loadR rfl rfl (rfl) rfl on5 rfl) ?_
        refine Pstep.go (st_rem rfl rfl (by omega) (show ((ks[k].toNat : Nat) : Int).tmod 5 = ((ks[k].toNat % 5 : Nat) : Int) from rfl) rfl) ?_
        refine Pstep.go (st_conv rfl Try.underlying5 Try.underlying3 (IntWalk.i64_in _ (by omega)) rfl) ?_
        refine Estep.go (st_callD (take_910 4000 (by omega) (by omega) b s ((ks[k].toNat % 5 : Nat) : Int) false hsl (by omega)) rfl [910] ⟨rfl, trivial⟩ rfl rfl rfl rfl rfl rfl rfl rfl rfl) ?_
        refine Estep.go (st_callD (put_900 z (takeV 4000 b ((ks[k].toNat % 5 : Nat) : Int) s).1 false hc.1 (by omega)) rfl [900, 901] ⟨rfl, rfl, trivial⟩ rfl rfl rfl rfl rfl rfl rfl rfl rfl) ?_
        refine o_nil ?_
        refine a_region ?_
        refine Pstep.go (st_move rfl rfl) ?_
        refine Pstep.go (st_add rfl rfl (IntWalk.i64_in _ (by omega)) rfl) ?_
        refine Pstep.go (st_assign rfl rfl) ?_
        refine o_nil ?_
        exact ⟨(k + 1, (takeV 4000 b ((ks[k].toNat % 5 : Nat) : Int) s).2, z ++ enc (pureC (takeV 4000 b ((ks[k].toNat % 5 : Nat) : Int) s).1)), ⟨by show k + 1 ≤ _; omega, takeV_le hsl, fun h => by obtain ⟨g1, g2⟩ := hc.2.2 h; show z ++ _ = b.take _; rw [g2, hz g1], by show (z ++ _).length ≤ 5000 * (k + 1); rw [List.length_append]; have := hc.2.1; omega⟩, by show ks.length - (k + 1) < ks.length - k; omega, lep_of hF [900, 901, 910] rfl (rfl) ⟨rfl, rfl, rfl, rfl, rfl, trivial⟩⟩
      · refine a_exit ?_
        refine a_seq ?_
        refine a_drawn [[], [0], [0, 1], [0, 1, 2], [0, 1, 2, 3], [0, 1, 2, 3, 4], [0, 1, 2, 3, 4, 5], [0, 1, 2, 3], [0, 1, 2, 3, 7], [0, 1, 2, 3, 4, 5, 6, 7, 8], [0, 1, 2, 3, 4, 5, 6, 7, 8, 9], [0, 1, 2, 3, 4, 5, 6, 7, 8, 9, 10]] mixed rfl ?_
        refine dw1 1 rfl rfl ?_
        refine Pstep.go (st_move rfl rfl) ?_
        refine o_nil ⟨rfl, ?_⟩
        refine dw1 2 rfl rfl ?_
        refine Estep.go (st_callD (rEnd_910 b s hsl (by omega)) rfl [910] ⟨rfl, trivial⟩ rfl rfl rfl rfl rfl rfl rfl rfl rfl) ?_
        refine o_nil ⟨rfl, ?_⟩
        refine dw1 3 rfl rfl ?_
        first | refine Pstep.go (st_neq rfl rfl rfl) ?_ | refine Pstep.go (st_neqSL rfl rfl rfl) ?_ | refine Pstep.go (st_neqS rfl rfl rfl) ?_ | refine Pstep.go (st_neqB Try.underlying38 rfl rfl rfl) ?_ | refine Pstep.go (st_neqP Try.underlying38 rfl rfl rfl) ?_ | refine Pstep.go (st_neqN Try.underlying38 rfl rfl) ?_ | refine Pstep.go (st_neqF Try.underlying38 rfl rfl rfl) ?_ | refine Pstep.go (st_neqFN Try.underlying38 rfl rfl) ?_
        refine o_nil ⟨rfl, ?_⟩
        refine dw1 4 rfl rfl ?_
        refine Pstep.go (st_move rfl rfl) ?_
        first | refine o_splitP 43 rfl (fun h43 => ?_) (fun h43 => ?_) | refine o_splitB 43 rfl (fun h43 => ?_) (fun h43 => ?_)
        · refine o_nil ⟨rfl, ?_⟩
          refine dws ?_
          refine d_pure [6, 43] [] rfl rfl (fun _ => gp_pass rfl rfl rfl rfl) ?_
          refine d_pure [44, 43] [] rfl rfl (fun _ => gp_pass rfl rfl rfl rfl) ?_
          refine d_pure [45, 43] [] rfl rfl (fun _ => gp_pass rfl rfl rfl rfl) ?_
          refine d_pure [0, 43] [] rfl rfl (fun _ => gp_pass rfl rfl rfl rfl) ?_
          refine d_pure [47, 43] [] rfl rfl (fun _ => gp_pass rfl rfl rfl rfl) ?_
          refine dwc 9 rfl rfl rfl ?_
          refine dw1 10 rfl rfl ?_
          refine o_pass rfl rfl rfl rfl ?_
          refine o_nil ⟨rfl, ?_⟩
          refine dw1 11 rfl rfl ?_
          refine Pstep.go (st_pickT rfl rfl rfl rfl) ?_
          refine o_nil ⟨rfl, ?_⟩
          refine dw1 12 rfl rfl ?_
          refine Pstep.go (st_assign rfl rfl) ?_
          refine o_nil ⟨rfl, ?_⟩
          refine dwe ?_
          refine a_ret ?_
          first | exact ⟨_, [], [], res_of rfl, rfl, rfl, rfl, rfl⟩ | (
            have hz1 : z = b := (by
              have h := h43
              have h2 : s.2 = 0 := by (by_cases e : s.2 = 0; exact e; rw [if_neg e] at h; omega)
              rw [if_pos h2] at h
              have h3 : s.1 = b.length := by (by_cases e : s.1 = b.length; exact e; rw [if_neg e] at h; omega)
              rw [hz h2, h3, List.take_length])
            exact ⟨_, [], [], res_of rfl, rfl, rfl, congrArg (fun b => AV.d (.raw (.bool b))) (decide_eq_true hz1), rfl⟩)
        · refine o_nil ⟨rfl, ?_⟩
          refine dws ?_
          first | refine d_pure [6, 43] [] rfl rfl (fun _ => gp_run rfl rfl rfl (st_move rfl rfl)) ?_ | refine d_pureA [6, 43] rfl rfl (fun _ => gp_run rfl rfl rfl (st_move rfl rfl)) ?_
          refine d_eff [44, 43] [900, 901, 902] [(45, _)] rfl rfl (fun _ => ge_run rfl rfl rfl (st_callD (wBytes_900 z (by omega)) rfl [900, 901, 902] ⟨rfl, rfl, rfl, trivial⟩ rfl rfl rfl rfl rfl rfl rfl rfl rfl)) (.inr ⟨45, _, rfl, rfl, rfl, rfl, rfl⟩) rfl rfl rfl rfl rfl ?_
          refine d_pure [45, 43] [902] rfl rfl (fun _ => gp_run rfl rfl rfl (st_convBSO z rfl rfl (by simp) rfl Try.underlying27 Try.underlying5 Try.underlying9 rfl)) ?_
          first | refine d_pure [0, 43] [] rfl rfl (fun _ => gp_run rfl rfl rfl (st_move rfl rfl)) ?_ | refine d_pureA [0, 43] rfl rfl (fun _ => gp_run rfl rfl rfl (st_move rfl rfl)) ?_
          first | refine d_pure [47, 43] [] rfl rfl (fun _ => gp_run rfl rfl rfl (st_convBS b rfl rfl Try.underlying27 Try.underlying5 Try.underlying9 rfl)) ?_ | refine d_pureA [47, 43] rfl rfl (fun _ => gp_run rfl rfl rfl (st_convBS b rfl rfl Try.underlying27 Try.underlying5 Try.underlying9 rfl)) ?_
          refine dwc 9 rfl rfl rfl ?_
          refine dw1 10 rfl rfl ?_
          refine o_run rfl rfl rfl ?_
          first | refine Pstep.go (st_eql rfl rfl rfl) ?_ | refine Pstep.go (st_eqlSL rfl rfl rfl) ?_ | refine Pstep.go (st_eqlS rfl rfl rfl) ?_ | refine Pstep.go (st_eqlB Try.underlying9 rfl rfl rfl) ?_ | refine Pstep.go (st_eqlP Try.underlying9 rfl rfl rfl) ?_ | refine Pstep.go (st_eqlN Try.underlying9 rfl rfl) ?_ | refine Pstep.go (st_eqlF Try.underlying9 rfl rfl rfl) ?_ | refine Pstep.go (st_eqlFN Try.underlying9 rfl rfl) ?_
          refine o_nil ⟨rfl, ?_⟩
          refine dw1 11 rfl rfl ?_
          refine Pstep.go (st_pickF rfl rfl rfl rfl) ?_
          refine o_nil ⟨rfl, ?_⟩
          refine dw1 12 rfl rfl ?_
          refine Pstep.go (st_assign rfl rfl) ?_
          refine o_nil ⟨rfl, ?_⟩
          refine dwe ?_
          refine a_ret ?_
          first | exact ⟨_, [], [], res_of rfl, rfl, rfl, rfl, rfl⟩ | (
            have hz1 : z = b := (by
              have h := h43
              have h2 : s.2 = 0 := by (by_cases e : s.2 = 0; exact e; rw [if_neg e] at h; omega)
              rw [if_pos h2] at h
              have h3 : s.1 = b.length := by (by_cases e : s.1 = b.length; exact e; rw [if_neg e] at h; omega)
              rw [hz h2, h3, List.take_length])
            exact ⟨_, [], [], res_of rfl, rfl, rfl, congrArg (fun b => AV.d (.raw (.bool b))) (decide_eq_true hz1), rfl⟩)
end Go.Proofs.Ytjbghmlofjkcfaa
