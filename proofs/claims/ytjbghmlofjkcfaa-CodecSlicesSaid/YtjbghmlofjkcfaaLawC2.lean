/- The walk of CodecRoundTrip. -/
import Derived.Test.YtjbghmlofjkcfaaCodS
namespace Go.Proofs.Ytjbghmlofjkcfaa
open Go.RowKit

theorem encAll_drop {l : List CV} {k : Nat} (hk : k < l.length) : encAll (l.drop k) = enc (pureC l[k]) ++ encAll (l.drop (k + 1)) := by
  rw [List.drop_eq_getElem_cons hk, encAll]
theorem encAll_split (l : List CV) (k : Nat) : encAll l = encAll (l.take k) ++ encAll (l.drop k) := by
  rw [← encAll_app, List.take_append_drop]
theorem kindI (v : CV) : (v.k < 0 ∨ 4 < v.k → kindOf v = 4) ∧ (¬ (v.k < 0 ∨ 4 < v.k) → kindOf v = v.k) := ⟨fun h => if_pos h, fun h => if_neg h⟩
theorem pureC_len {v : CV} (h : VSm v) : (pureC v).l.length ≤ 4000 := by
  have := h.l
  rcases kinds v with ⟨_, h⟩ | ⟨_, h⟩ | ⟨_, h⟩ | ⟨_, h⟩ | ⟨_, k0, k1, k2, k3⟩
  · rw [pure0 h]; exact Nat.zero_le _
  · rw [pure1 h]; exact Nat.zero_le _
  · rw [pure2 h]; exact Nat.zero_le _
  · rw [pure3 h]; exact Nat.zero_le _
  · rw [pure4 k0 k1 k2 k3]; exact this
set_option maxHeartbeats 2000000 in
theorem roundTrip_p (l : List CV) (rest : List UInt8) (blob : Bool) (hl : l.length ≤ 140737488351232) (hv : ∀ v ∈ l, VIn v) (hr0 : rest.length ≤ 140737488351232) : PCalls Try.prog 7 [.d (.sl none (l.map vD)), .d (bytesD rest), .d (.raw (.bool blob))] (.raw (.bool true)) := by
  refine a_enter Try.func7 rfl rfl Try.ntmps7 rfl rfl rfl fun F hF => ?_
  refine a_seq ?_
  refine a_region ?_
  refine Pstep.go (st_assign rfl rfl) ?_
  refine o_nil ?_
  refine a_seq ?_
  refine a_seq ?_
  refine a_region ?_
  refine Pstep.go (st_callP (known_p) rfl rfl) ?_
  first | refine Pstep.go (st_notP rfl rfl) ?_ | refine Pstep.go (st_not rfl rfl) ?_
  refine Pstep.go (st_move rfl rfl) ?_
  refine o_setF 14 rfl (rfl) ?_
  refine o_run rfl rfl rfl ?_
  refine Pstep.go (st_move rfl rfl) ?_
  refine o_run rfl rfl rfl ?_
  refine Pstep.go (st_callP (small_p l hl hv) rfl rfl) ?_
  refine o_run rfl rfl rfl ?_
  first | refine Pstep.go (st_notP rfl rfl) ?_ | refine Pstep.go (st_not rfl rfl) ?_
  refine Pstep.go (st_pickF rfl rfl rfl rfl) ?_
  refine Pstep.go (st_move rfl rfl) ?_
  first | refine o_splitP 19 rfl (fun h19 => ?_) (fun h19 => ?_) | refine o_splitB 19 rfl (fun h19 => ?_) (fun h19 => ?_)
  · refine o_pass rfl rfl rfl rfl ?_
    refine o_pass rfl rfl rfl rfl ?_
    refine o_pass rfl rfl rfl rfl ?_
    refine Pstep.go (st_pickT rfl rfl rfl rfl) ?_
    refine o_nil ?_
    refine a_true rfl rfl ?_
    refine a_seq ?_
    refine a_region ?_
    refine Pstep.go (st_callP (known_p) rfl rfl) ?_
    refine Pstep.go (st_assign rfl rfl) ?_
    refine o_nil ?_
    refine a_ret ?_
    exact ⟨_, [], [], res_of rfl, rfl, rfl, rfl, rfl⟩
  · refine o_run rfl rfl rfl ?_
    refine Pstep.go (st_move rfl rfl) ?_
    refine o_run rfl rfl rfl ?_
    first | refine Pstep.go (st_lenMap rfl Try.underlying27 rfl) ?_ | refine Pstep.go (st_lenD rfl rfl Try.underlying27 rfl) ?_ | refine Pstep.go (st_lenO rfl Try.underlying27 rfl) ?_ | refine Pstep.go (st_lenSL rfl Try.underlying27 rfl) ?_ | refine Pstep.go (st_lenS rfl Try.underlying27 rfl) ?_
    refine o_run rfl rfl rfl ?_
    first | refine Pstep.go (st_gtr rfl rfl rfl) ?_ | refine Pstep.go (st_gtrS rfl rfl rfl) ?_
    refine Pstep.go (st_pickF rfl rfl rfl rfl) ?_
    refine o_nil ?_
    first | refine a_if rfl (fun h23 => ?_) (fun h23 => ?_) | refine a_cond rfl (fun h23 => ?_) (fun h23 => ?_)
    · refine a_seq ?_
      refine a_region ?_
      refine Pstep.go (st_callP (known_p) rfl rfl) ?_
      refine Pstep.go (st_assign rfl rfl) ?_
      refine o_nil ?_
      refine a_ret ?_
      exact ⟨_, [], [], res_of rfl, rfl, rfl, rfl, rfl⟩
    · refine a_skip ?_
      refine a_seq ?_
      have hsm : tot l ≤ 4000 := by have h := h19; omega
      have hrl : rest.length ≤ 4000 := by have h := h23; omega
      refine a_region ?_
      refine Estep.go (st_callD newWriter_900 rfl [900, 901] ⟨rfl, rfl, trivial⟩ rfl rfl rfl rfl rfl rfl rfl rfl rfl) ?_
      refine Pstep.go (st_assign rfl rfl) ?_
      refine o_nil ?_
      refine a_seq ?_
      refine a_seq ?_
      refine a_region ?_
      refine Pstep.go (st_assign rfl rfl) ?_
      refine o_nil ?_
      refine a_block ?_
      refine a_loopP (α := Nat × List UInt8) (fun p => ⟨92, [(0, .d (.sl none (l.map vD))), (1, .d (bytesD rest)), (2, .d (.raw (.bool blob))), (7, .ptr 900 0 0), (8, (.d (.raw (.int .i64 (p.1 : Int)))))], [(900, [.blk 63 [.own 901 0 p.2.length]]), (901, [.rowD 5 1 (p.2.map byteD)])]⟩) (fun p => p.1 ≤ l.length ∧ p.2 = encAll (l.take p.1)) (fun p => l.length - p.1) ((0, [])) (⟨Nat.zero_le _, by simp [encAll]⟩) (lep_of hF [900, 901] rfl rfl ⟨rfl, rfl, rfl, rfl, rfl, trivial⟩) ?_
      rintro ⟨k, z⟩ ⟨hk0, hz⟩
      dsimp only at hk0 hz ⊢
      refine a_seq ?_
      refine a_seq ?_
      refine a_region ?_
      refine Pstep.go (st_move rfl rfl) ?_
      refine Pstep.go (st_move rfl rfl) ?_
      first | refine Pstep.go (st_lenMap rfl Try.underlying22 rfl) ?_ | refine Pstep.go (st_lenD rfl rfl Try.underlying22 rfl) ?_ | refine Pstep.go (st_lenO rfl Try.underlying22 rfl) ?_ | refine Pstep.go (st_lenSL rfl Try.underlying22 rfl) ?_ | refine Pstep.go (st_lenS rfl Try.underlying22 rfl) ?_
      first | refine Pstep.go (st_lss rfl rfl rfl) ?_ | refine Pstep.go (st_lssS rfl rfl rfl) ?_
      refine o_nil ?_
      first | refine a_if rfl (fun h29 => ?_) (fun h29 => ?_) | refine a_cond rfl (fun h29 => ?_) (fun h29 => ?_)
      · refine a_skip ?_
        refine a_seq ?_
        refine a_block ?_
        refine a_region ?_
        have hk : k < l.length := lt_cast h29
        have hvk := hv l[k] (List.getElem_mem hk)
        have hsk : vsz l[k] ≤ 4000 := Nat.le_trans (tot_mem (List.getElem_mem hk)) hsm
        have hok := hvk.ok hsk
        have hzl : z.length ≤ 40000 := by rw [hz]; exact encAll_take_len hv hsm k
        refine Pstep.go (st_move rfl rfl) ?_
        refine Pstep.go (st_move rfl rfl) ?_
        refine Pstep.go (st_move rfl rfl) ?_
        first | refine Pstep.go (st_indexD (k) rfl rfl (rfl) (getm hk) Try.underlying22 rfl sz32 rfl) ?_ | refine Pstep.go (st_indexO (k) rfl rfl (rfl) (getm hk) rfl Try.underlying22 sz32 rfl) ?_
        first | refine Pstep.go (st_loadDS rfl rfl rw32 rfl) ?_ | refine Pstep.go (st_loadPS rfl rfl rw32 rfl rfl rfl) ?_ | refine Pstep.go (st_loadRS rfl rfl (rfl) rfl rw32 rfl) ?_
        refine Pstep.go (st_move rfl rfl) ?_
        refine Estep.go (st_callD (put_900 z l[k] blob hok (by omega)) rfl [900, 901] ⟨rfl, rfl, trivial⟩ rfl rfl rfl rfl rfl rfl rfl rfl rfl) ?_
        refine o_nil ?_
        refine a_region ?_
        refine Pstep.go (st_move rfl rfl) ?_
        refine Pstep.go (st_add rfl rfl (IntWalk.i64_in _ (by omega)) rfl) ?_
        refine Pstep.go (st_assign rfl rfl) ?_
        refine o_nil ?_
        exact ⟨(k + 1, z ++ enc (pureC l[k])), ⟨by show k + 1 ≤ _; omega, by show _ = encAll (l.take (k + 1)); rw [encAll_at hk, hz]⟩, by show l.length - (k + 1) < l.length - k; omega, lep_of hF [900, 901] rfl (rfl) ⟨rfl, rfl, rfl, rfl, rfl, trivial⟩⟩
      · refine a_exit ?_
        refine a_seq ?_
        have hzl : z.length ≤ 40000 := by rw [hz]; exact encAll_take_len hv hsm k
        have hz1 : z = encAll l := by rw [hz, List.take_of_length_le (by have h := h29; omega)]
        clear hz
        subst hz1
        refine a_region ?_
        refine Pstep.go (st_move rfl rfl) ?_
        refine Estep.go (st_callD (wBytes_900 (encAll l) (by omega)) rfl [900, 901, 902] ⟨rfl, rfl, rfl, trivial⟩ rfl rfl rfl rfl rfl rfl rfl rfl rfl) ?_
        refine Pstep.go (st_move rfl rfl) ?_
        first | refine Estep.go (st_appM (encAll l) (rest) rfl rfl rfl rfl rfl rfl rfl rfl sl27 (by first | omega | (simp only [List.length_append, List.length_cons, List.length_nil]; omega)) rfl rfl rfl rfl) ?_ | refine Estep.go (st_appMD (encAll l) (rest) rfl rfl rfl rfl rfl rfl (fun _ => rfl) sl27 (by first | omega | (simp only [List.length_append, List.length_cons, List.length_nil]; omega)) rfl rfl rfl rfl) ?_
        refine o_freezeM 42 902 (encAll l ++ rest) rfl rfl rfl rfl rfl rfl rfl ?_
        have hbl : (encAll l ++ rest).length ≤ 50000 := by rw [List.length_append]; omega
        refine Estep.go (st_callD (newReader_p (encAll l ++ rest) (by omega)) rfl [910] ⟨rfl, trivial⟩ rfl rfl rfl rfl rfl rfl rfl rfl rfl) ?_
        refine Pstep.go (st_assign rfl rfl) ?_
        refine o_nil ?_
        refine a_seq ?_
        refine a_seq ?_
        refine a_region ?_
        refine Pstep.go (st_assign rfl rfl) ?_
        refine o_nil ?_
        refine a_block ?_
        refine a_loopP (α := Nat × Nat) (fun p => ⟨92, [(0, .d (.sl none (l.map vD))), (1, .d (bytesD rest)), (2, .d (.raw (.bool blob))), (9, .ptr 910 0 0), (10, (.d (.raw (.int .i64 (p.1 : Int)))))], rH (encAll l ++ rest) p.2 0⟩) (fun p => p.1 ≤ l.length ∧ p.2 = (encAll (l.take p.1)).length) (fun p => l.length - p.1) ((0, 0)) (⟨Nat.zero_le _, rfl⟩) (lep_of hF [910] rfl rfl ⟨rfl, rfl, rfl, rfl, rfl, trivial⟩) ?_
        rintro ⟨i, at_⟩ ⟨hi0, hat⟩
        dsimp only at hi0 hat ⊢
        have hol : at_ ≤ (encAll l ++ rest).length := by rw [hat, encAll_split l i, List.length_append, List.length_append]; omega
        refine a_seq ?_
        refine a_seq ?_
        refine a_region ?_
        refine Pstep.go (st_move rfl rfl) ?_
        refine Pstep.go (st_move rfl rfl) ?_
        first | refine Pstep.go (st_lenMap rfl Try.underlying22 rfl) ?_ | refine Pstep.go (st_lenD rfl rfl Try.underlying22 rfl) ?_ | refine Pstep.go (st_lenO rfl Try.underlying22 rfl) ?_ | refine Pstep.go (st_lenSL rfl Try.underlying22 rfl) ?_ | refine Pstep.go (st_lenS rfl Try.underlying22 rfl) ?_
        first | refine Pstep.go (st_lss rfl rfl rfl) ?_ | refine Pstep.go (st_lssS rfl rfl rfl) ?_
        refine o_nil ?_
        first | refine a_if rfl (fun h47 => ?_) (fun h47 => ?_) | refine a_cond rfl (fun h47 => ?_) (fun h47 => ?_)
        · refine a_skip ?_
          refine a_seq ?_
          refine a_block ?_
          refine a_seq ?_
          refine a_region ?_
          have hi : i < l.length := lt_cast h47
          have hsm1 : VSm l[i] := (hv l[i] (List.getElem_mem hi)).sm (Nat.le_trans (tot_mem (List.getElem_mem hi)) hsm)
          have htk : takeV 1048576 (encAll l ++ rest) (kindOf l[i]) (at_, 0) = (pureC l[i], (at_ + (enc (pureC l[i])).length, 0)) := by rw [takeV_dec, show (encAll l ++ rest).drop at_ = enc (pureC l[i]) ++ (encAll (l.drop (i + 1)) ++ rest) by rw [hat, encAll_split l i, List.append_assoc, List.drop_left, encAll_drop hi, List.append_assoc], decV_enc hsm1 _ _ (by omega)]
          have hpl := pureC_len hsm1
          refine Pstep.go (st_move rfl rfl) ?_
          refine Pstep.go (st_move rfl rfl) ?_
          first | refine Pstep.go (st_indexD (i) rfl rfl (rfl) (getm hi) Try.underlying22 rfl sz32 rfl) ?_ | refine Pstep.go (st_indexO (i) rfl rfl (rfl) (getm hi) rfl Try.underlying22 sz32 rfl) ?_
          first | refine Pstep.go (st_fieldP rfl fi32_0 rfl rfl rfl) ?_ | refine Pstep.go (st_fieldF1 rfl fi32_0 rfl rfl rfl) ?_ | refine Pstep.go (st_fieldFS rfl fi32_0 rfl rfl rfl) ?_ | refine Pstep.go (st_fieldR rfl fi32_0 rfl rfl rfl) ?_
          first | refine Pstep.go (st_loadD1 rfl rfl on3 rfl) ?_ | refine Pstep.go (st_loadP rfl rfl rfl on3 rfl) ?_ | refine Pstep.go (st_loadR rfl rfl (rfl) rfl on3 rfl) ?_
          refine Pstep.go (st_assign rfl rfl) ?_
          refine o_nil ?_
          refine a_seq ?_
          refine a_seq ?_
          refine a_region ?_
          refine Pstep.go (st_move rfl rfl) ?_
          first | refine Pstep.go (st_lss rfl rfl rfl) ?_ | refine Pstep.go (st_lssS rfl rfl rfl) ?_
          refine Pstep.go (st_move rfl rfl) ?_
          first | refine o_splitP 57 rfl (fun h57 => ?_) (fun h57 => ?_) | refine o_splitB 57 rfl (fun h57 => ?_) (fun h57 => ?_)
          · refine o_pass rfl rfl rfl rfl ?_
            refine o_pass rfl rfl rfl rfl ?_
            refine Pstep.go (st_pickT rfl rfl rfl rfl) ?_
            refine o_nil ?_
            refine a_true rfl rfl ?_
            refine a_region ?_
            refine Pstep.go (st_assign rfl rfl) ?_
            refine o_nil ?_
            refine a_seq ?_
            first | refine a_weakD 11 (.raw (.int .i64 (kindOf l[i]))) rfl (fun _ _ _ h => by rw [(kindI l[i]).1 (.inl h57)]; exact h) ?_ | refine a_weakD 11 (.raw (.int .i64 (kindOf l[i]))) rfl (fun _ _ _ h => by rw [(kindI l[i]).1 (.inr h60)]; exact h) ?_ | refine a_weakD 11 (.raw (.int .i64 (kindOf l[i]))) rfl (fun _ _ _ h => by rw [(kindI l[i]).2 (not_or.2 ⟨h57, h60⟩)]; exact h) ?_
            have htk' := take_910 1048576 (by omega) (by omega) (encAll l ++ rest) (at_, 0) (kindOf l[i]) (!blob) hol (by omega)
            rw [htk] at htk'
            dsimp only at htk'
            refine a_drawn [[], [], [], [2], [0, 1, 2, 3], [], [], [5, 6], [5, 6, 7], [0, 1, 2, 3, 4, 5, 6, 7, 8], [0, 1, 2, 3, 4, 5, 6, 7, 8, 9], [0, 1, 2, 3, 4, 5, 6, 7, 8, 9, 10]] mixed rfl ?_
            refine dws ?_
            first | refine d_pure [9] [] rfl rfl (fun _ => gp_none (st_move rfl rfl)) ?_ | refine d_pureA [9] rfl rfl (fun _ => gp_none (st_move rfl rfl)) ?_
            first | refine d_pure [11] [] rfl rfl (fun _ => gp_none (st_move rfl rfl)) ?_ | refine d_pureA [11] rfl rfl (fun _ => gp_none (st_move rfl rfl)) ?_
            first | refine d_pure [2] [] rfl rfl (fun _ => gp_none (st_move rfl rfl)) ?_ | refine d_pureA [2] rfl rfl (fun _ => gp_none (st_move rfl rfl)) ?_
            first | refine d_pure [63] [] rfl rfl (fun _ => gp_none (st_notP rfl rfl)) ?_ | refine d_pureA [63] rfl rfl (fun _ => gp_none (st_notP rfl rfl)) ?_ | refine d_pure [63] [] rfl rfl (fun _ => gp_none (st_not rfl rfl)) ?_ | refine d_pureA [63] rfl rfl (fun _ => gp_none (st_not rfl rfl)) ?_
            refine d_eff [61, 62, 64] [910] [(65, _)] rfl rfl (fun _ => ge_none (st_callD htk' rfl [910] ⟨rfl, trivial⟩ rfl rfl rfl rfl rfl rfl rfl rfl rfl)) (.inr ⟨65, _, rfl, rfl, rfl, rfl, rfl⟩) rfl rfl rfl rfl rfl ?_
            first | refine d_pure [0] [] rfl rfl (fun _ => gp_none (st_move rfl rfl)) ?_ | refine d_pureA [0] rfl rfl (fun _ => gp_none (st_move rfl rfl)) ?_
            first | refine d_pure [10] [] rfl rfl (fun _ => gp_none (st_move rfl rfl)) ?_ | refine d_pureA [10] rfl rfl (fun _ => gp_none (st_move rfl rfl)) ?_
            first | refine d_pure [66, 67] [] rfl rfl (fun _ => gp_none (st_indexD (i) rfl rfl (rfl) (getm hi) Try.underlying22 rfl sz32 rfl)) ?_ | refine d_pureA [66, 67] rfl rfl (fun _ => gp_none (st_indexD (i) rfl rfl (rfl) (getm hi) Try.underlying22 rfl sz32 rfl)) ?_ | refine d_pure [66, 67] [] rfl rfl (fun _ => gp_none (st_indexO (i) rfl rfl (rfl) (getm hi) rfl Try.underlying22 sz32 rfl)) ?_ | refine d_pureA [66, 67] rfl rfl (fun _ => gp_none (st_indexO (i) rfl rfl (rfl) (getm hi) rfl Try.underlying22 sz32 rfl)) ?_
            first | refine d_pure [68] [] rfl rfl (fun _ => gp_none (st_loadDS rfl rfl rw32 rfl)) ?_ | refine d_pureA [68] rfl rfl (fun _ => gp_none (st_loadDS rfl rfl rw32 rfl)) ?_ | refine d_pure [68] [] rfl rfl (fun _ => gp_none (st_loadPS rfl rfl rw32 rfl rfl rfl)) ?_ | refine d_pureA [68] rfl rfl (fun _ => gp_none (st_loadPS rfl rfl rw32 rfl rfl rfl)) ?_ | refine d_pure [68] [] rfl rfl (fun _ => gp_none (st_loadRS rfl rfl (rfl) rfl rw32 rfl)) ?_ | refine d_pureA [68] rfl rfl (fun _ => gp_none (st_loadRS rfl rfl (rfl) rfl rw32 rfl)) ?_
            refine dwc 9 rfl rfl rfl ?_
            refine dw1 10 rfl rfl ?_
            refine Pstep.go (st_callP (pure_p l[i]) rfl rfl) ?_
            refine o_nil ⟨rfl, ?_⟩
            refine dw1 11 rfl rfl ?_
            refine Pstep.go (st_callP (same_p (pureC l[i]) (pureC l[i]) (by omega)) rfl rfl) ?_
            refine o_nil ⟨rfl, ?_⟩
            refine dw1 12 rfl rfl ?_
            first | refine Pstep.go (st_notP rfl rfl) ?_ | refine Pstep.go (st_not rfl rfl) ?_
            refine o_nil ⟨rfl, ?_⟩
            refine dwe ?_
            refine a_false rfl (by simp) ?_
            refine a_skip ?_
            refine a_region ?_
            refine Pstep.go (st_move rfl rfl) ?_
            refine Pstep.go (st_add rfl rfl (IntWalk.i64_in _ (by omega)) rfl) ?_
            refine Pstep.go (st_assign rfl rfl) ?_
            refine o_nil ?_
            exact ⟨(i + 1, at_ + (enc (pureC l[i])).length), ⟨by show i + 1 ≤ _; omega, by show _ = (encAll (l.take (i + 1))).length; rw [encAll_at hi, List.length_append, hat]⟩, by show l.length - (i + 1) < l.length - i; omega, lep_of hF [910] rfl (rfl) ⟨rfl, rfl, rfl, rfl, rfl, trivial⟩⟩
          · refine o_run rfl rfl rfl ?_
            refine Pstep.go (st_move rfl rfl) ?_
            refine o_run rfl rfl rfl ?_
            first | refine Pstep.go (st_gtr rfl rfl rfl) ?_ | refine Pstep.go (st_gtrS rfl rfl rfl) ?_
            refine Pstep.go (st_pickF rfl rfl rfl rfl) ?_
            refine o_nil ?_
            first | refine a_if rfl (fun h60 => ?_) (fun h60 => ?_) | refine a_cond rfl (fun h60 => ?_) (fun h60 => ?_)
            · refine a_region ?_
              refine Pstep.go (st_assign rfl rfl) ?_
              refine o_nil ?_
              refine a_seq ?_
              first | refine a_weakD 11 (.raw (.int .i64 (kindOf l[i]))) rfl (fun _ _ _ h => by rw [(kindI l[i]).1 (.inl h57)]; exact h) ?_ | refine a_weakD 11 (.raw (.int .i64 (kindOf l[i]))) rfl (fun _ _ _ h => by rw [(kindI l[i]).1 (.inr h60)]; exact h) ?_ | refine a_weakD 11 (.raw (.int .i64 (kindOf l[i]))) rfl (fun _ _ _ h => by rw [(kindI l[i]).2 (not_or.2 ⟨h57, h60⟩)]; exact h) ?_
              have htk' := take_910 1048576 (by omega) (by omega) (encAll l ++ rest) (at_, 0) (kindOf l[i]) (!blob) hol (by omega)
              rw [htk] at htk'
              dsimp only at htk'
              refine a_drawn [[], [], [], [2], [0, 1, 2, 3], [], [], [5, 6], [5, 6, 7], [0, 1, 2, 3, 4, 5, 6, 7, 8], [0, 1, 2, 3, 4, 5, 6, 7, 8, 9], [0, 1, 2, 3, 4, 5, 6, 7, 8, 9, 10]] mixed rfl ?_
              refine dws ?_
              first | refine d_pure [9] [] rfl rfl (fun _ => gp_none (st_move rfl rfl)) ?_ | refine d_pureA [9] rfl rfl (fun _ => gp_none (st_move rfl rfl)) ?_
              first | refine d_pure [11] [] rfl rfl (fun _ => gp_none (st_move rfl rfl)) ?_ | refine d_pureA [11] rfl rfl (fun _ => gp_none (st_move rfl rfl)) ?_
              first | refine d_pure [2] [] rfl rfl (fun _ => gp_none (st_move rfl rfl)) ?_ | refine d_pureA [2] rfl rfl (fun _ => gp_none (st_move rfl rfl)) ?_
              first | refine d_pure [63] [] rfl rfl (fun _ => gp_none (st_notP rfl rfl)) ?_ | refine d_pureA [63] rfl rfl (fun _ => gp_none (st_notP rfl rfl)) ?_ | refine d_pure [63] [] rfl rfl (fun _ => gp_none (st_not rfl rfl)) ?_ | refine d_pureA [63] rfl rfl (fun _ => gp_none (st_not rfl rfl)) ?_
              refine d_eff [61, 62, 64] [910] [(65, _)] rfl rfl (fun _ => ge_none (st_callD htk' rfl [910] ⟨rfl, trivial⟩ rfl rfl rfl rfl rfl rfl rfl rfl rfl)) (.inr ⟨65, _, rfl, rfl, rfl, rfl, rfl⟩) rfl rfl rfl rfl rfl ?_
              first | refine d_pure [0] [] rfl rfl (fun _ => gp_none (st_move rfl rfl)) ?_ | refine d_pureA [0] rfl rfl (fun _ => gp_none (st_move rfl rfl)) ?_
              first | refine d_pure [10] [] rfl rfl (fun _ => gp_none (st_move rfl rfl)) ?_ | refine d_pureA [10] rfl rfl (fun _ => gp_none (st_move rfl rfl)) ?_
              first | refine d_pure [66, 67] [] rfl rfl (fun _ => gp_none (st_indexD (i) rfl rfl (rfl) (getm hi) Try.underlying22 rfl sz32 rfl)) ?_ | refine d_pureA [66, 67] rfl rfl (fun _ => gp_none (st_indexD (i) rfl rfl (rfl) (getm hi) Try.underlying22 rfl sz32 rfl)) ?_ | refine d_pure [66, 67] [] rfl rfl (fun _ => gp_none (st_indexO (i) rfl rfl (rfl) (getm hi) rfl Try.underlying22 sz32 rfl)) ?_ | refine d_pureA [66, 67] rfl rfl (fun _ => gp_none (st_indexO (i) rfl rfl (rfl) (getm hi) rfl Try.underlying22 sz32 rfl)) ?_
              first | refine d_pure [68] [] rfl rfl (fun _ => gp_none (st_loadDS rfl rfl rw32 rfl)) ?_ | refine d_pureA [68] rfl rfl (fun _ => gp_none (st_loadDS rfl rfl rw32 rfl)) ?_ | refine d_pure [68] [] rfl rfl (fun _ => gp_none (st_loadPS rfl rfl rw32 rfl rfl rfl)) ?_ | refine d_pureA [68] rfl rfl (fun _ => gp_none (st_loadPS rfl rfl rw32 rfl rfl rfl)) ?_ | refine d_pure [68] [] rfl rfl (fun _ => gp_none (st_loadRS rfl rfl (rfl) rfl rw32 rfl)) ?_ | refine d_pureA [68] rfl rfl (fun _ => gp_none (st_loadRS rfl rfl (rfl) rfl rw32 rfl)) ?_
              refine dwc 9 rfl rfl rfl ?_
              refine dw1 10 rfl rfl ?_
              refine Pstep.go (st_callP (pure_p l[i]) rfl rfl) ?_
              refine o_nil ⟨rfl, ?_⟩
              refine dw1 11 rfl rfl ?_
              refine Pstep.go (st_callP (same_p (pureC l[i]) (pureC l[i]) (by omega)) rfl rfl) ?_
              refine o_nil ⟨rfl, ?_⟩
              refine dw1 12 rfl rfl ?_
              first | refine Pstep.go (st_notP rfl rfl) ?_ | refine Pstep.go (st_not rfl rfl) ?_
              refine o_nil ⟨rfl, ?_⟩
              refine dwe ?_
              refine a_false rfl (by simp) ?_
              refine a_skip ?_
              refine a_region ?_
              refine Pstep.go (st_move rfl rfl) ?_
              refine Pstep.go (st_add rfl rfl (IntWalk.i64_in _ (by omega)) rfl) ?_
              refine Pstep.go (st_assign rfl rfl) ?_
              refine o_nil ?_
              exact ⟨(i + 1, at_ + (enc (pureC l[i])).length), ⟨by show i + 1 ≤ _; omega, by show _ = (encAll (l.take (i + 1))).length; rw [encAll_at hi, List.length_append, hat]⟩, by show l.length - (i + 1) < l.length - i; omega, lep_of hF [910] rfl (rfl) ⟨rfl, rfl, rfl, rfl, rfl, trivial⟩⟩
            · refine a_skip ?_
              refine a_seq ?_
              first | refine a_weakD 11 (.raw (.int .i64 (kindOf l[i]))) rfl (fun _ _ _ h => by rw [(kindI l[i]).1 (.inl h57)]; exact h) ?_ | refine a_weakD 11 (.raw (.int .i64 (kindOf l[i]))) rfl (fun _ _ _ h => by rw [(kindI l[i]).1 (.inr h60)]; exact h) ?_ | refine a_weakD 11 (.raw (.int .i64 (kindOf l[i]))) rfl (fun _ _ _ h => by rw [(kindI l[i]).2 (not_or.2 ⟨h57, h60⟩)]; exact h) ?_
              have htk' := take_910 1048576 (by omega) (by omega) (encAll l ++ rest) (at_, 0) (kindOf l[i]) (!blob) hol (by omega)
              rw [htk] at htk'
              dsimp only at htk'
              refine a_drawn [[], [], [], [2], [0, 1, 2, 3], [], [], [5, 6], [5, 6, 7], [0, 1, 2, 3, 4, 5, 6, 7, 8], [0, 1, 2, 3, 4, 5, 6, 7, 8, 9], [0, 1, 2, 3, 4, 5, 6, 7, 8, 9, 10]] mixed rfl ?_
              refine dws ?_
              first | refine d_pure [9] [] rfl rfl (fun _ => gp_none (st_move rfl rfl)) ?_ | refine d_pureA [9] rfl rfl (fun _ => gp_none (st_move rfl rfl)) ?_
              first | refine d_pure [11] [] rfl rfl (fun _ => gp_none (st_move rfl rfl)) ?_ | refine d_pureA [11] rfl rfl (fun _ => gp_none (st_move rfl rfl)) ?_
              first | refine d_pure [2] [] rfl rfl (fun _ => gp_none (st_move rfl rfl)) ?_ | refine d_pureA [2] rfl rfl (fun _ => gp_none (st_move rfl rfl)) ?_
              first | refine d_pure [63] [] rfl rfl (fun _ => gp_none (st_notP rfl rfl)) ?_ | refine d_pureA [63] rfl rfl (fun _ => gp_none (st_notP rfl rfl)) ?_ | refine d_pure [63] [] rfl rfl (fun _ => gp_none (st_not rfl rfl)) ?_ | refine d_pureA [63] rfl rfl (fun _ => gp_none (st_not rfl rfl)) ?_
              refine d_eff [61, 62, 64] [910] [(65, _)] rfl rfl (fun _ => ge_none (st_callD htk' rfl [910] ⟨rfl, trivial⟩ rfl rfl rfl rfl rfl rfl rfl rfl rfl)) (.inr ⟨65, _, rfl, rfl, rfl, rfl, rfl⟩) rfl rfl rfl rfl rfl ?_
              first | refine d_pure [0] [] rfl rfl (fun _ => gp_none (st_move rfl rfl)) ?_ | refine d_pureA [0] rfl rfl (fun _ => gp_none (st_move rfl rfl)) ?_
              first | refine d_pure [10] [] rfl rfl (fun _ => gp_none (st_move rfl rfl)) ?_ | refine d_pureA [10] rfl rfl (fun _ => gp_none (st_move rfl rfl)) ?_
              first | refine d_pure [66, 67] [] rfl rfl (fun _ => gp_none (st_indexD (i) rfl rfl (rfl) (getm hi) Try.underlying22 rfl sz32 rfl)) ?_ | refine d_pureA [66, 67] rfl rfl (fun _ => gp_none (st_indexD (i) rfl rfl (rfl) (getm hi) Try.underlying22 rfl sz32 rfl)) ?_ | refine d_pure [66, 67] [] rfl rfl (fun _ => gp_none (st_indexO (i) rfl rfl (rfl) (getm hi) rfl Try.underlying22 sz32 rfl)) ?_ | refine d_pureA [66, 67] rfl rfl (fun _ => gp_none (st_indexO (i) rfl rfl (rfl) (getm hi) rfl Try.underlying22 sz32 rfl)) ?_
              first | refine d_pure [68] [] rfl rfl (fun _ => gp_none (st_loadDS rfl rfl rw32 rfl)) ?_ | refine d_pureA [68] rfl rfl (fun _ => gp_none (st_loadDS rfl rfl rw32 rfl)) ?_ | refine d_pure [68] [] rfl rfl (fun _ => gp_none (st_loadPS rfl rfl rw32 rfl rfl rfl)) ?_ | refine d_pureA [68] rfl rfl (fun _ => gp_none (st_loadPS rfl rfl rw32 rfl rfl rfl)) ?_ | refine d_pure [68] [] rfl rfl (fun _ => gp_none (st_loadRS rfl rfl (rfl) rfl rw32 rfl)) ?_ | refine d_pureA [68] rfl rfl (fun _ => gp_none (st_loadRS rfl rfl (rfl) rfl rw32 rfl)) ?_
              refine dwc 9 rfl rfl rfl ?_
              refine dw1 10 rfl rfl ?_
              refine Pstep.go (st_callP (pure_p l[i]) rfl rfl) ?_
              refine o_nil ⟨rfl, ?_⟩
              refine dw1 11 rfl rfl ?_
              refine Pstep.go (st_callP (same_p (pureC l[i]) (pureC l[i]) (by omega)) rfl rfl) ?_
              refine o_nil ⟨rfl, ?_⟩
              refine dw1 12 rfl rfl ?_
              first | refine Pstep.go (st_notP rfl rfl) ?_ | refine Pstep.go (st_not rfl rfl) ?_
              refine o_nil ⟨rfl, ?_⟩
              refine dwe ?_
              refine a_false rfl (by simp) ?_
              refine a_skip ?_
              refine a_region ?_
              refine Pstep.go (st_move rfl rfl) ?_
              refine Pstep.go (st_add rfl rfl (IntWalk.i64_in _ (by omega)) rfl) ?_
              refine Pstep.go (st_assign rfl rfl) ?_
              refine o_nil ?_
              exact ⟨(i + 1, at_ + (enc (pureC l[i])).length), ⟨by show i + 1 ≤ _; omega, by show _ = (encAll (l.take (i + 1))).length; rw [encAll_at hi, List.length_append, hat]⟩, by show l.length - (i + 1) < l.length - i; omega, lep_of hF [910] rfl (rfl) ⟨rfl, rfl, rfl, rfl, rfl, trivial⟩⟩
        · refine a_exit ?_
          refine a_seq ?_
          have hie : l.take i = l := List.take_of_length_le (by have h := h47; omega)
          rw [hie] at hat
          subst hat
          have hol2 : (encAll l).length ≤ (encAll l ++ rest).length := by rw [List.length_append]; omega
          refine a_region ?_
          refine Pstep.go (st_move rfl rfl) ?_
          refine Estep.go (st_callD (rErr_910 (encAll l ++ rest) ((encAll l).length, 0)) rfl [910] ⟨rfl, trivial⟩ rfl rfl rfl rfl rfl rfl rfl rfl rfl) ?_
          first | refine Pstep.go (st_eql rfl rfl rfl) ?_ | refine Pstep.go (st_eqlSL rfl rfl rfl) ?_ | refine Pstep.go (st_eqlS rfl rfl rfl) ?_ | refine Pstep.go (st_eqlB Try.underlying38 rfl rfl rfl) ?_ | refine Pstep.go (st_eqlP Try.underlying38 rfl rfl rfl) ?_ | refine Pstep.go (st_eqlN Try.underlying38 rfl rfl) ?_ | refine Pstep.go (st_eqlF Try.underlying38 rfl rfl rfl) ?_ | refine Pstep.go (st_eqlFN Try.underlying38 rfl rfl) ?_
          refine Pstep.go (st_move rfl rfl) ?_
          refine o_setT 76 rfl (rfl) ?_
          refine o_run rfl rfl rfl ?_
          refine Pstep.go (st_move rfl rfl) ?_
          refine o_run rfl rfl rfl ?_
          refine Estep.go (st_callD (rRest_910 (encAll l ++ rest) ((encAll l).length, 0) hol2 (by omega)) rfl [910] ⟨rfl, trivial⟩ rfl rfl rfl rfl rfl rfl rfl rfl rfl) ?_
          refine o_run rfl rfl rfl ?_
          refine Pstep.go (st_move rfl rfl) ?_
          refine o_run rfl rfl rfl ?_
          first | refine Pstep.go (st_lenMap rfl Try.underlying27 rfl) ?_ | refine Pstep.go (st_lenD rfl rfl Try.underlying27 rfl) ?_ | refine Pstep.go (st_lenO rfl Try.underlying27 rfl) ?_ | refine Pstep.go (st_lenSL rfl Try.underlying27 rfl) ?_ | refine Pstep.go (st_lenS rfl Try.underlying27 rfl) ?_
          refine o_run rfl rfl rfl ?_
          first | refine Pstep.go (st_eql rfl rfl rfl) ?_ | refine Pstep.go (st_eqlSL rfl rfl rfl) ?_ | refine Pstep.go (st_eqlS rfl rfl rfl) ?_ | refine Pstep.go (st_eqlB Try.underlying3 rfl rfl rfl) ?_ | refine Pstep.go (st_eqlP Try.underlying3 rfl rfl rfl) ?_ | refine Pstep.go (st_eqlN Try.underlying3 rfl rfl) ?_ | refine Pstep.go (st_eqlF Try.underlying3 rfl rfl rfl) ?_ | refine Pstep.go (st_eqlFN Try.underlying3 rfl rfl) ?_
          refine Pstep.go (st_pickT rfl rfl rfl rfl) ?_
          refine Pstep.go (st_move rfl rfl) ?_
          refine o_setT 83 rfl (decide_eq_true (by rw [List.length_append]; omega)) ?_
          refine o_run rfl rfl rfl ?_
          refine Pstep.go (st_move rfl rfl) ?_
          refine o_run rfl rfl rfl ?_
          refine Estep.go (st_callD (rEnd_910 (encAll l ++ rest) ((encAll l).length, 0) hol2 (by omega)) rfl [910] ⟨rfl, trivial⟩ rfl rfl rfl rfl rfl rfl rfl rfl rfl) ?_
          refine o_run rfl rfl rfl ?_
          first | refine Pstep.go (st_eql rfl rfl rfl) ?_ | refine Pstep.go (st_eqlSL rfl rfl rfl) ?_ | refine Pstep.go (st_eqlS rfl rfl rfl) ?_ | refine Pstep.go (st_eqlB Try.underlying38 rfl rfl rfl) ?_ | refine Pstep.go (st_eqlP Try.underlying38 rfl rfl rfl) ?_ | refine Pstep.go (st_eqlN Try.underlying38 rfl rfl) ?_ | refine Pstep.go (st_eqlF Try.underlying38 rfl rfl rfl) ?_ | refine Pstep.go (st_eqlFN Try.underlying38 rfl rfl) ?_
          refine o_run rfl rfl rfl ?_
          refine Pstep.go (st_move rfl rfl) ?_
          refine o_run rfl rfl rfl ?_
          first | refine Pstep.go (st_lenMap rfl Try.underlying27 rfl) ?_ | refine Pstep.go (st_lenD rfl rfl Try.underlying27 rfl) ?_ | refine Pstep.go (st_lenO rfl Try.underlying27 rfl) ?_ | refine Pstep.go (st_lenSL rfl Try.underlying27 rfl) ?_ | refine Pstep.go (st_lenS rfl Try.underlying27 rfl) ?_
          refine o_run rfl rfl rfl ?_
          first | refine Pstep.go (st_eql rfl rfl rfl) ?_ | refine Pstep.go (st_eqlSL rfl rfl rfl) ?_ | refine Pstep.go (st_eqlS rfl rfl rfl) ?_ | refine Pstep.go (st_eqlB Try.underlying3 rfl rfl rfl) ?_ | refine Pstep.go (st_eqlP Try.underlying3 rfl rfl rfl) ?_ | refine Pstep.go (st_eqlN Try.underlying3 rfl rfl) ?_ | refine Pstep.go (st_eqlF Try.underlying3 rfl rfl rfl) ?_ | refine Pstep.go (st_eqlFN Try.underlying3 rfl rfl) ?_
          refine o_run rfl rfl rfl ?_
          first | refine Pstep.go (st_eql rfl rfl rfl) ?_ | refine Pstep.go (st_eqlSL rfl rfl rfl) ?_ | refine Pstep.go (st_eqlS rfl rfl rfl) ?_ | refine Pstep.go (st_eqlB Try.underlying4 rfl rfl rfl) ?_ | refine Pstep.go (st_eqlP Try.underlying4 rfl rfl rfl) ?_ | refine Pstep.go (st_eqlN Try.underlying4 rfl rfl) ?_ | refine Pstep.go (st_eqlF Try.underlying4 rfl rfl rfl) ?_ | refine Pstep.go (st_eqlFN Try.underlying4 rfl rfl) ?_
          refine Pstep.go (st_pickT rfl rfl rfl rfl) ?_
          refine Pstep.go (st_assign rfl rfl) ?_
          refine o_nil ?_
          refine a_ret ?_
          have hfin : decide ((((if (0 : Nat) = 0 then (if (encAll l).length = (encAll l ++ rest).length then 0 else 5) else 0 : Nat) : Nat) : Int) = 0) = decide ((rest.length : Int) = 0) := by
            rw [decide_eq_decide, if_pos rfl]; split <;> rename_i h <;> rw [List.length_append] at h <;> omega
          exact ⟨_, [], [], res_of rfl, rfl, rfl, congrArg (fun b => AV.d (.raw (.bool b))) (decide_eq_true hfin), rfl⟩
end Go.Proofs.Ytjbghmlofjkcfaa
