/- The walks of CodecTruncated and CodecCanonical. -/
import Derived.Test.YtjbghmlofjkcfaaCodPm
import Derived.Test.YtjbghmlofjkcfaaLawC2
namespace Go.Proofs.Ytjbghmlofjkcfaa
open Go.RowKit

theorem takeV_le {mx k : Int} {b : List UInt8} {s : RSt} (h : s.1 ≤ b.length) : (takeV mx b k s).2.1 ≤ b.length := by
  obtain ⟨a, e⟩ := s
  by_cases e0 : e = 0
  · subst e0
    rw [takeV_dec]
    have := decV_fits mx k (b.drop a)
    rw [List.length_drop] at this
    dsimp only at h ⊢; omega
  · rw [takeV_err _ _ _ _ e0]; exact h
/-- One more value is read of an encoding that was cut. -/
theorem cutStep {l : List CV} {c i : Nat} (hi : i < l.length) (hs : VSm l[i]) {s : RSt} (h : (s.2 = 0 ∧ s.1 = (encAll (l.take i)).length ∧ s.1 ≤ c) ∨ s.2 = 19) (hc : c ≤ (encAll l).length) :
    ((takeV 1048576 ((encAll l).take c) (kindOf l[i]) s).2.2 = 0 ∧ (takeV 1048576 ((encAll l).take c) (kindOf l[i]) s).2.1 = (encAll (l.take (i + 1))).length ∧ (takeV 1048576 ((encAll l).take c) (kindOf l[i]) s).2.1 ≤ c) ∨ (takeV 1048576 ((encAll l).take c) (kindOf l[i]) s).2.2 = 19 := by
  obtain ⟨a, e⟩ := s
  rcases h with ⟨h1, h2, h3⟩ | h1
  · dsimp only at h1 h2 h3
    subst h1
    rw [takeV_dec]
    have ht : ((encAll l).take c).drop a = (enc (pureC l[i]) ++ encAll (l.drop (i + 1))).take (c - a) := by
      rw [List.drop_take, encAll_split l i, h2, List.drop_left, encAll_drop hi]
    rw [ht]
    rcases Nat.lt_or_ge (c - a) (enc (pureC l[i])).length with g | g
    · right
      rw [List.take_append_of_le_length (by omega)]
      exact decV_cut hs _ g _ (by omega)
    · left
      obtain ⟨j, hj⟩ : ∃ j, c - a = (enc (pureC l[i])).length + j := ⟨c - a - (enc (pureC l[i])).length, by omega⟩
      rw [hj, List.take_length_add_append, decV_enc hs _ _ (by omega)]
      exact ⟨rfl, by rw [encAll_at hi, List.length_append, ← h2], by dsimp only; omega⟩
  · right
    dsimp only at h1
    subst h1
    rw [takeV_err _ _ _ _ (show ¬ (19 : Nat) = 0 by decide)]
set_option maxHeartbeats 2000000 in
theorem truncated_p (l : List CV) (n : Nat) (hn : n ≤ 65535) (hl : l.length ≤ 140737488351232) (hv : ∀ v ∈ l, VIn v) : PCalls Try.prog 9 [.d (.sl none (l.map vD)), .d (.raw (.int .u16 (n : Int)))] (.raw (.bool true)) := by
  refine a_enter Try.func9 rfl rfl Try.ntmps9 rfl rfl rfl fun F hF => ?_
  refine a_seq ?_
  refine a_region ?_
  refine Pstep.go (st_assign rfl rfl) ?_
  refine o_nil ?_
  refine a_seq ?_
  refine a_seq ?_
  refine a_region ?_
  refine Pstep.go (st_callP (known_p) rfl rfl) ?_
  first | refine Pstep.go (st_notP rfl rfl) ?_ | refine Pstep.go (st_not rfl rfl) ?_
  refine Pstep.go (st_move rfl rfl) ?_
  refine o_setF 13 rfl (rfl) ?_
  refine o_run rfl rfl rfl ?_
  refine Pstep.go (st_move rfl rfl) ?_
  refine o_run rfl rfl rfl ?_
  refine Pstep.go (st_callP (small_p l hl hv) rfl rfl) ?_
  refine o_run rfl rfl rfl ?_
  first | refine Pstep.go (st_notP rfl rfl) ?_ | refine Pstep.go (st_not rfl rfl) ?_
  refine Pstep.go (st_pickF rfl rfl rfl rfl) ?_
  refine o_nil ?_
  first | refine a_if rfl (fun h17 => ?_) (fun h17 => ?_) | refine a_cond rfl (fun h17 => ?_) (fun h17 => ?_)
  · refine a_seq ?_
    refine a_region ?_
    refine Pstep.go (st_callP (known_p) rfl rfl) ?_
    refine Pstep.go (st_assign rfl rfl) ?_
    refine o_nil ?_
    refine a_ret ?_
    exact ⟨_, [], [], res_of rfl, rfl, rfl, rfl, rfl⟩
  · refine a_skip ?_
    refine a_seq ?_
    have hsm : tot l ≤ 4000 := by have h := h17; omega
    refine a_region ?_
    refine Estep.go (st_callD newWriter_900 rfl [900, 901] ⟨rfl, rfl, trivial⟩ rfl rfl rfl rfl rfl rfl rfl rfl rfl) ?_
    refine Pstep.go (st_assign rfl rfl) ?_
    refine o_nil ?_
    refine a_seq ?_
    refine a_seq ?_
    refine a_region ?_
    refine Pstep.go (st_assign rfl rfl) ?_
    refine o_nil ?_
    refine a_block ?_
    refine a_loopP (α := Nat × List UInt8) (fun p => ⟨73, [(0, .d (.sl none (l.map vD))), (1, .d (.raw (.int .u16 (n : Int)))), (5, .ptr 900 0 0), (6, (.d (.raw (.int .i64 (p.1 : Int)))))], [(900, [.blk 63 [.own 901 0 p.2.length]]), (901, [.rowD 5 1 (p.2.map byteD)])]⟩) (fun p => p.1 ≤ l.length ∧ p.2 = encAll (l.take p.1)) (fun p => l.length - p.1) ((0, [])) (⟨Nat.zero_le _, by simp [encAll]⟩) (lep_of hF [900, 901] rfl rfl ⟨rfl, rfl, rfl, rfl, trivial⟩) ?_
    rintro ⟨k, z⟩ ⟨hk0, hz⟩
    dsimp only at hk0 hz ⊢
    refine a_seq ?_
    refine a_seq ?_
    refine a_region ?_
    refine Pstep.go (st_move rfl rfl) ?_
    refine Pstep.go (st_move rfl rfl) ?_
    first | refine Pstep.go (st_lenMap rfl Try.underlying22 rfl) ?_ | refine Pstep.go (st_lenD rfl rfl Try.underlying22 rfl) ?_ | refine Pstep.go (st_lenO rfl Try.underlying22 rfl) ?_ | refine Pstep.go (st_lenSL rfl Try.underlying22 rfl) ?_ | refine Pstep.go (st_lenS rfl Try.underlying22 rfl) ?_
    first | refine Pstep.go (st_lss rfl rfl rfl) ?_ | refine Pstep.go (st_lssS rfl rfl rfl) ?_
    refine o_nil ?_
    first | refine a_if rfl (fun h23 => ?_) (fun h23 => ?_) | refine a_cond rfl (fun h23 => ?_) (fun h23 => ?_)
    · refine a_skip ?_
      refine a_seq ?_
      refine a_block ?_
      refine a_region ?_
      have hk : k < l.length := lt_cast h23
      have hvk := hv l[k] (List.getElem_mem hk)
      have hsk : vsz l[k] ≤ 4000 := Nat.le_trans (tot_mem (List.getElem_mem hk)) hsm
      have hok := hvk.ok hsk
      have hzl : z.length ≤ 40000 := by rw [hz]; exact encAll_take_len hv hsm k
      refine Pstep.go (st_move rfl rfl) ?_
      refine Pstep.go (st_move rfl rfl) ?_
      refine Pstep.go (st_move rfl rfl) ?_
      first | refine Pstep.go (st_indexD (k) rfl rfl (rfl) (getm hk) Try.underlying22 rfl sz32 rfl) ?_ | refine Pstep.go (st_indexO (k) rfl rfl (rfl) (getm hk) rfl Try.underlying22 sz32 rfl) ?_
      first | refine Pstep.go (st_loadDS rfl rfl rw32 rfl) ?_ | refine Pstep.go (st_loadPS rfl rfl rw32 rfl rfl rfl) ?_ | refine Pstep.go (st_loadRS rfl rfl (rfl) rfl rw32 rfl) ?_
      refine Estep.go (st_callD (put_900 z l[k] false hok (by omega)) rfl [900, 901] ⟨rfl, rfl, trivial⟩ rfl rfl rfl rfl rfl rfl rfl rfl rfl) ?_
      refine o_nil ?_
      refine a_region ?_
      refine Pstep.go (st_move rfl rfl) ?_
      refine Pstep.go (st_add rfl rfl (IntWalk.i64_in _ (by omega)) rfl) ?_
      refine Pstep.go (st_assign rfl rfl) ?_
      refine o_nil ?_
      exact ⟨(k + 1, z ++ enc (pureC l[k])), ⟨by show k + 1 ≤ _; omega, by show _ = encAll (l.take (k + 1)); rw [encAll_at hk, hz]⟩, by show l.length - (k + 1) < l.length - k; omega, lep_of hF [900, 901] rfl (rfl) ⟨rfl, rfl, rfl, rfl, trivial⟩⟩
    · refine a_exit ?_
      refine a_seq ?_
      have hzl : z.length ≤ 40000 := by rw [hz]; exact encAll_take_len hv hsm k
      have hz1 : z = encAll l := by rw [hz, List.take_of_length_le (by have h := h23; omega)]
      clear hz
      subst hz1
      refine a_region ?_
      refine Pstep.go (st_move rfl rfl) ?_
      refine Estep.go (st_callD (wBytes_900 (encAll l) (by omega)) rfl [900, 901, 902] ⟨rfl, rfl, rfl, trivial⟩ rfl rfl rfl rfl rfl rfl rfl rfl rfl) ?_
      refine o_freezeM (emb := byteD) 33 902 (encAll l) rfl rfl rfl rfl rfl rfl rfl ?_
      refine Pstep.go (st_assign rfl rfl) ?_
      refine o_nil ?_
      refine a_seq ?_
      refine a_seq ?_
      refine a_region ?_
      refine Pstep.go (st_move rfl rfl) ?_
      first | refine Pstep.go (st_lenMap rfl Try.underlying27 rfl) ?_ | refine Pstep.go (st_lenD rfl rfl Try.underlying27 rfl) ?_ | refine Pstep.go (st_lenO rfl Try.underlying27 rfl) ?_ | refine Pstep.go (st_lenSL rfl Try.underlying27 rfl) ?_ | refine Pstep.go (st_lenS rfl Try.underlying27 rfl) ?_
      first | refine Pstep.go (st_eql rfl rfl rfl) ?_ | refine Pstep.go (st_eqlSL rfl rfl rfl) ?_ | refine Pstep.go (st_eqlS rfl rfl rfl) ?_ | refine Pstep.go (st_eqlB Try.underlying3 rfl rfl rfl) ?_ | refine Pstep.go (st_eqlP Try.underlying3 rfl rfl rfl) ?_ | refine Pstep.go (st_eqlN Try.underlying3 rfl rfl) ?_ | refine Pstep.go (st_eqlF Try.underlying3 rfl rfl rfl) ?_ | refine Pstep.go (st_eqlFN Try.underlying3 rfl rfl) ?_
      refine o_nil ?_
      first | refine a_if rfl (fun h36 => ?_) (fun h36 => ?_) | refine a_cond rfl (fun h36 => ?_) (fun h36 => ?_)
      · refine a_seq ?_
        refine a_region ?_
        refine Pstep.go (st_assign rfl rfl) ?_
        refine o_nil ?_
        refine a_ret ?_
        exact ⟨_, [], [], res_of rfl, rfl, rfl, rfl, rfl⟩
      · refine a_skip ?_
        refine a_seq ?_
        have hpos : 0 < (encAll l).length := by have h := h36; omega
        obtain ⟨c, hc⟩ : ∃ c, c = n % (encAll l).length := ⟨_, rfl⟩
        have hcl : c < (encAll l).length := by rw [hc]; exact Nat.mod_lt _ hpos
        refine a_region ?_
        refine Pstep.go (st_move rfl rfl) ?_
        refine Pstep.go (st_move rfl rfl) ?_
        refine Pstep.go (st_conv rfl Try.underlying47 Try.underlying3 (IntWalk.i64_in _ (by omega)) rfl) ?_
        refine Pstep.go (st_move rfl rfl) ?_
        first | refine Pstep.go (st_lenMap rfl Try.underlying27 rfl) ?_ | refine Pstep.go (st_lenD rfl rfl Try.underlying27 rfl) ?_ | refine Pstep.go (st_lenO rfl Try.underlying27 rfl) ?_ | refine Pstep.go (st_lenSL rfl Try.underlying27 rfl) ?_ | refine Pstep.go (st_lenS rfl Try.underlying27 rfl) ?_
        refine Pstep.go (st_rem rfl rfl (by omega) (show ((n : Nat) : Int).tmod (((encAll l).length : Nat) : Int) = ((n % (encAll l).length : Nat) : Int) from rfl) rfl) ?_
        refine o_weakD 42 (.raw (.int .i64 (c : Int))) rfl (fun _ _ _ h => by rw [hc]; exact h) ?_
        refine Pstep.go (st_sliceHiM (encAll l) (c) rfl rfl rfl (rfl) (by omega) Try.underlying27 sz5 (fun _ => rfl) rfl) ?_
        have hbl : ((encAll l).take c).length ≤ 50000 := by rw [List.length_take]; omega
        refine Estep.go (st_callD (newReader_p ((encAll l).take c) (by omega)) rfl [910] ⟨rfl, trivial⟩ rfl rfl rfl rfl rfl rfl rfl rfl rfl) ?_
        refine Pstep.go (st_assign rfl rfl) ?_
        refine o_nil ?_
        refine a_seq ?_
        refine a_seq ?_
        refine a_region ?_
        refine Pstep.go (st_assign rfl rfl) ?_
        refine o_nil ?_
        refine a_block ?_
        refine a_loopP (α := Nat × RSt) (fun p => ⟨73, [(0, .d (.sl none (l.map vD))), (8, .ptr 910 0 0), (9, (.d (.raw (.int .i64 (p.1 : Int)))))], rH ((encAll l).take c) p.2.1 p.2.2⟩) (fun p => p.1 ≤ l.length ∧ p.2.1 ≤ ((encAll l).take c).length ∧ ((p.2.2 = 0 ∧ p.2.1 = (encAll (l.take p.1)).length ∧ p.2.1 ≤ c) ∨ p.2.2 = 19)) (fun p => l.length - p.1) ((0, (0, 0))) (⟨Nat.zero_le _, Nat.zero_le _, .inl ⟨rfl, rfl, Nat.zero_le _⟩⟩) (lep_of hF [910] rfl rfl ⟨rfl, rfl, rfl, trivial⟩) ?_
        rintro ⟨i, s⟩ ⟨hi0, hsl, hst⟩
        dsimp only at hi0 hsl hst ⊢
        refine a_seq ?_
        refine a_seq ?_
        refine a_region ?_
        refine Pstep.go (st_move rfl rfl) ?_
        refine Pstep.go (st_move rfl rfl) ?_
        first | refine Pstep.go (st_lenMap rfl Try.underlying22 rfl) ?_ | refine Pstep.go (st_lenD rfl rfl Try.underlying22 rfl) ?_ | refine Pstep.go (st_lenO rfl Try.underlying22 rfl) ?_ | refine Pstep.go (st_lenSL rfl Try.underlying22 rfl) ?_ | refine Pstep.go (st_lenS rfl Try.underlying22 rfl) ?_
        first | refine Pstep.go (st_lss rfl rfl rfl) ?_ | refine Pstep.go (st_lssS rfl rfl rfl) ?_
        refine o_nil ?_
        first | refine a_if rfl (fun h48 => ?_) (fun h48 => ?_) | refine a_cond rfl (fun h48 => ?_) (fun h48 => ?_)
        · refine a_skip ?_
          refine a_seq ?_
          refine a_block ?_
          refine a_seq ?_
          refine a_region ?_
          have hi : i < l.length := lt_cast h48
          have hsm1 : VSm l[i] := (hv l[i] (List.getElem_mem hi)).sm (Nat.le_trans (tot_mem (List.getElem_mem hi)) hsm)
          refine Pstep.go (st_move rfl rfl) ?_
          refine Pstep.go (st_move rfl rfl) ?_
          first | refine Pstep.go (st_indexD (i) rfl rfl (rfl) (getm hi) Try.underlying22 rfl sz32 rfl) ?_ | refine Pstep.go (st_indexO (i) rfl rfl (rfl) (getm hi) rfl Try.underlying22 sz32 rfl) ?_
          first | refine Pstep.go (st_fieldP rfl fi32_0 rfl rfl rfl) ?_ | refine Pstep.go (st_fieldF1 rfl fi32_0 rfl rfl rfl) ?_ | refine Pstep.go (st_fieldFS rfl fi32_0 rfl rfl rfl) ?_ | refine Pstep.go (st_fieldR rfl fi32_0 rfl rfl rfl) ?_
          first | refine Pstep.go (st_loadD1 rfl rfl on3 rfl) ?_ | refine Pstep.go (st_loadP rfl rfl rfl on3 rfl) ?_ | refine Pstep.go (st_loadR rfl rfl (rfl) rfl on3 rfl) ?_
          refine Pstep.go (st_assign rfl rfl) ?_
          refine o_nil ?_
          refine a_seq ?_
          refine a_seq ?_
          refine a_region ?_
          refine Pstep.go (st_move rfl rfl) ?_
          first | refine Pstep.go (st_lss rfl rfl rfl) ?_ | refine Pstep.go (st_lssS rfl rfl rfl) ?_
          refine Pstep.go (st_move rfl rfl) ?_
          first | refine o_splitP 58 rfl (fun h58 => ?_) (fun h58 => ?_) | refine o_splitB 58 rfl (fun h58 => ?_) (fun h58 => ?_)
          · refine o_pass rfl rfl rfl rfl ?_
            refine o_pass rfl rfl rfl rfl ?_
            refine Pstep.go (st_pickT rfl rfl rfl rfl) ?_
            refine o_nil ?_
            refine a_true rfl rfl ?_
            refine a_region ?_
            refine Pstep.go (st_assign rfl rfl) ?_
            refine o_nil ?_
            first | refine a_weakD 10 (.raw (.int .i64 (kindOf l[i]))) rfl (fun _ _ _ h => by rw [(kindI l[i]).1 (.inl h58)]; exact h) ?_ | refine a_weakD 10 (.raw (.int .i64 (kindOf l[i]))) rfl (fun _ _ _ h => by rw [(kindI l[i]).1 (.inr h61)]; exact h) ?_ | refine a_weakD 10 (.raw (.int .i64 (kindOf l[i]))) rfl (fun _ _ _ h => by rw [(kindI l[i]).2 (not_or.2 ⟨h58, h61⟩)]; exact h) ?_
            refine a_region ?_
            refine Pstep.go (st_move rfl rfl) ?_
            refine Pstep.go (st_move rfl rfl) ?_
            refine Estep.go (st_callD (take_910 1048576 (by omega) (by omega) ((encAll l).take c) s (kindOf l[i]) false hsl (by omega)) rfl [910] ⟨rfl, trivial⟩ rfl rfl rfl rfl rfl rfl rfl rfl rfl) ?_
            refine o_nil ?_
            refine a_region ?_
            refine Pstep.go (st_move rfl rfl) ?_
            refine Pstep.go (st_add rfl rfl (IntWalk.i64_in _ (by omega)) rfl) ?_
            refine Pstep.go (st_assign rfl rfl) ?_
            refine o_nil ?_
            exact ⟨(i + 1, (takeV 1048576 ((encAll l).take c) (kindOf l[i]) s).2), ⟨by show i + 1 ≤ _; omega, takeV_le hsl, cutStep hi hsm1 hst (by omega)⟩, by show l.length - (i + 1) < l.length - i; omega, lep_of hF [910] rfl (rfl) ⟨rfl, rfl, rfl, trivial⟩⟩
          · refine o_run rfl rfl rfl ?_
            refine Pstep.go (st_move rfl rfl) ?_
            refine o_run rfl rfl rfl ?_
            first | refine Pstep.go (st_gtr rfl rfl rfl) ?_ | refine Pstep.go (st_gtrS rfl rfl rfl) ?_
            refine Pstep.go (st_pickF rfl rfl rfl rfl) ?_
            refine o_nil ?_
            first | refine a_if rfl (fun h61 => ?_) (fun h61 => ?_) | refine a_cond rfl (fun h61 => ?_) (fun h61 => ?_)
            · refine a_region ?_
              refine Pstep.go (st_assign rfl rfl) ?_
              refine o_nil ?_
              first | refine a_weakD 10 (.raw (.int .i64 (kindOf l[i]))) rfl (fun _ _ _ h => by rw [(kindI l[i]).1 (.inl h58)]; exact h) ?_ | refine a_weakD 10 (.raw (.int .i64 (kindOf l[i]))) rfl (fun _ _ _ h => by rw [(kindI l[i]).1 (.inr h61)]; exact h) ?_ | refine a_weakD 10 (.raw (.int .i64 (kindOf l[i]))) rfl (fun _ _ _ h => by rw [(kindI l[i]).2 (not_or.2 ⟨h58, h61⟩)]; exact h) ?_
              refine a_region ?_
              refine Pstep.go (st_move rfl rfl) ?_
              refine Pstep.go (st_move rfl rfl) ?_
              refine Estep.go (st_callD (take_910 1048576 (by omega) (by omega) ((encAll l).take c) s (kindOf l[i]) false hsl (by omega)) rfl [910] ⟨rfl, trivial⟩ rfl rfl rfl rfl rfl rfl rfl rfl rfl) ?_
              refine o_nil ?_
              refine a_region ?_
              refine Pstep.go (st_move rfl rfl) ?_
              refine Pstep.go (st_add rfl rfl (IntWalk.i64_in _ (by omega)) rfl) ?_
              refine Pstep.go (st_assign rfl rfl) ?_
              refine o_nil ?_
              exact ⟨(i + 1, (takeV 1048576 ((encAll l).take c) (kindOf l[i]) s).2), ⟨by show i + 1 ≤ _; omega, takeV_le hsl, cutStep hi hsm1 hst (by omega)⟩, by show l.length - (i + 1) < l.length - i; omega, lep_of hF [910] rfl (rfl) ⟨rfl, rfl, rfl, trivial⟩⟩
            · refine a_skip ?_
              first | refine a_weakD 10 (.raw (.int .i64 (kindOf l[i]))) rfl (fun _ _ _ h => by rw [(kindI l[i]).1 (.inl h58)]; exact h) ?_ | refine a_weakD 10 (.raw (.int .i64 (kindOf l[i]))) rfl (fun _ _ _ h => by rw [(kindI l[i]).1 (.inr h61)]; exact h) ?_ | refine a_weakD 10 (.raw (.int .i64 (kindOf l[i]))) rfl (fun _ _ _ h => by rw [(kindI l[i]).2 (not_or.2 ⟨h58, h61⟩)]; exact h) ?_
              refine a_region ?_
              refine Pstep.go (st_move rfl rfl) ?_
              refine Pstep.go (st_move rfl rfl) ?_
              refine Estep.go (st_callD (take_910 1048576 (by omega) (by omega) ((encAll l).take c) s (kindOf l[i]) false hsl (by omega)) rfl [910] ⟨rfl, trivial⟩ rfl rfl rfl rfl rfl rfl rfl rfl rfl) ?_
              refine o_nil ?_
              refine a_region ?_
              refine Pstep.go (st_move rfl rfl) ?_
              refine Pstep.go (st_add rfl rfl (IntWalk.i64_in _ (by omega)) rfl) ?_
              refine Pstep.go (st_assign rfl rfl) ?_
              refine o_nil ?_
              exact ⟨(i + 1, (takeV 1048576 ((encAll l).take c) (kindOf l[i]) s).2), ⟨by show i + 1 ≤ _; omega, takeV_le hsl, cutStep hi hsm1 hst (by omega)⟩, by show l.length - (i + 1) < l.length - i; omega, lep_of hF [910] rfl (rfl) ⟨rfl, rfl, rfl, trivial⟩⟩
        · refine a_exit ?_
          refine a_seq ?_
          have hs19 : s.2 = 19 := by
            rcases hst with ⟨_, g1, g2⟩ | g
            · exfalso; have h := h48; rw [List.take_of_length_le (by omega)] at g1; omega
            · exact g
          obtain ⟨sa, se⟩ := s
          dsimp only at hs19 hsl
          subst hs19
          refine a_region ?_
          refine Pstep.go (st_move rfl rfl) ?_
          refine Estep.go (st_callD (rErr_910 ((encAll l).take c) (sa, 19)) rfl [910] ⟨rfl, trivial⟩ rfl rfl rfl rfl rfl rfl rfl rfl rfl) ?_
          first | refine Pstep.go (st_eql rfl rfl rfl) ?_ | refine Pstep.go (st_eqlSL rfl rfl rfl) ?_ | refine Pstep.go (st_eqlS rfl rfl rfl) ?_ | refine Pstep.go (st_eqlB Try.underlying38 rfl rfl rfl) ?_ | refine Pstep.go (st_eqlP Try.underlying38 rfl rfl rfl) ?_ | refine Pstep.go (st_eqlN Try.underlying38 rfl rfl) ?_ | refine Pstep.go (st_eqlF Try.underlying38 rfl rfl rfl) ?_ | refine Pstep.go (st_eqlFN Try.underlying38 rfl rfl) ?_
          refine Pstep.go (st_move rfl rfl) ?_
          refine o_setT 68 rfl (rfl) ?_
          refine o_run rfl rfl rfl ?_
          refine Pstep.go (st_move rfl rfl) ?_
          refine o_run rfl rfl rfl ?_
          refine Estep.go (st_callD (rEnd_910 ((encAll l).take c) (sa, 19) hsl (by omega)) rfl [910] ⟨rfl, trivial⟩ rfl rfl rfl rfl rfl rfl rfl rfl rfl) ?_
          refine o_run rfl rfl rfl ?_
          first | refine Pstep.go (st_eql rfl rfl rfl) ?_ | refine Pstep.go (st_eqlSL rfl rfl rfl) ?_ | refine Pstep.go (st_eqlS rfl rfl rfl) ?_ | refine Pstep.go (st_eqlB Try.underlying38 rfl rfl rfl) ?_ | refine Pstep.go (st_eqlP Try.underlying38 rfl rfl rfl) ?_ | refine Pstep.go (st_eqlN Try.underlying38 rfl rfl) ?_ | refine Pstep.go (st_eqlF Try.underlying38 rfl rfl rfl) ?_ | refine Pstep.go (st_eqlFN Try.underlying38 rfl rfl) ?_
          refine Pstep.go (st_pickT rfl rfl rfl rfl) ?_
          refine Pstep.go (st_assign rfl rfl) ?_
          refine o_nil ?_
          refine a_ret ?_
          exact ⟨_, [], [], res_of rfl, rfl, rfl, rfl, rfl⟩
theorem truncated_i (l : List CV) (n : Int) (hn : IntKind.u16.min ≤ n ∧ n ≤ IntKind.u16.max) (hl : l.length ≤ 140737488351232) (hv : ∀ v ∈ l, VIn v) : PCalls Try.prog 9 [.d (.sl none (l.map vD)), .d (.raw (.int .u16 n))] (.raw (.bool true)) := by
  have h1 : IntKind.u16.min = 0 := rfl
  have h2 : IntKind.u16.max = 65535 := rfl
  obtain ⟨n, rfl⟩ := Int.eq_ofNat_of_zero_le (show 0 ≤ n by omega)
  exact truncated_p l n (by omega) hl hv
end Go.Proofs.Ytjbghmlofjkcfaa
