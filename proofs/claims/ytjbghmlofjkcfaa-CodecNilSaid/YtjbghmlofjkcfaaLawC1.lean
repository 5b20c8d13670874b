/- The walk of CodecWrite. -/
import Derived.Test.YtjbghmlofjkcfaaCodK
namespace Go.Proofs.Ytjbghmlofjkcfaa
open Go.RowKit

/-- The encodings of some values, one behind the other. -/
def encAll : List CV → List UInt8
  | [] => []
  | v :: r => enc (pureC v) ++ encAll r
theorem encAll_app (a b : List CV) : encAll (a ++ b) = encAll a ++ encAll b := by
  induction a with
  | nil => rfl
  | cons x r ih => simp [encAll, ih]
theorem encAll_at {l : List CV} {k : Nat} (hk : k < l.length) : encAll (l.take (k + 1)) = encAll (l.take k) ++ enc (pureC l[k]) := by
  rw [List.take_succ_eq_append_getElem hk, encAll_app]; simp [encAll]
theorem uv_le {n : Nat} (h : n < 18446744073709551616) : (uv n).length ≤ 10 := uv_len10 h
theorem encL_len (l : List (List UInt8)) (h : ∀ x ∈ l, x.length < 18446744073709551616) : (encL l).length ≤ 10 * l.length + sumL l := by
  induction l with
  | nil => simp [encL]
  | cons x r ih =>
    have h1 := ih fun y hy => h y (List.mem_cons_of_mem _ hy)
    have h2 := uv_len10 (h x (List.mem_cons_self ..))
    simp only [encL, encS, List.length_append, List.length_cons, sumL, List.map_cons, List.sum_cons] at h1 ⊢
    omega
theorem sumL_mem {l : List (List UInt8)} {x : List UInt8} (h : x ∈ l) : x.length ≤ sumL l := by
  induction l with
  | nil => cases h
  | cons y r ih =>
    simp only [sumL, List.map_cons, List.sum_cons] at ih ⊢
    rcases List.mem_cons.1 h with rfl | h
    · omega
    · have := ih h; omega
theorem tot_mem {l : List CV} {v : CV} (h : v ∈ l) : vsz v ≤ tot l := by
  induction l with
  | nil => cases h
  | cons y r ih =>
    simp only [tot, List.map_cons, List.sum_cons] at ih ⊢
    rcases List.mem_cons.1 h with rfl | h
    · omega
    · have := ih h; omega
/-- A value that is small and came in. -/
theorem VIn.ok {v : CV} (h : VIn v) (hs : vsz v ≤ 4000) : VOk v := by
  have h1 : sumL v.l ≤ 4000 := by unfold vsz at hs; omega
  have h2 := encL_len v.l fun x hx => by have := sumL_mem hx; omega
  have h3 : v.l.length ≤ 4000 := by unfold vsz at hs; omega
  exact ⟨h.u, h.i1, h.i2, by unfold vsz at hs; omega, by omega, by omega⟩
theorem VOk.pure {v : CV} (h : VOk v) : VOk (pureC v) := by
  have := h.u; have := h.i1; have := h.i2; have := h.s; have := h.l; have := h.e
  unfold pureC
  split
  · exact ⟨h.u, by show (-9223372036854775808 : Int) ≤ 0; omega, by show (0 : Int) ≤ 9223372036854775807; omega, Nat.zero_le _, Nat.zero_le _, Nat.zero_le _⟩
  · split
    · exact ⟨by show 0 < 18446744073709551616; omega, h.i1, h.i2, Nat.zero_le _, Nat.zero_le _, Nat.zero_le _⟩
    · split
      · exact ⟨by show 0 < 18446744073709551616; omega, by show (-9223372036854775808 : Int) ≤ 0; omega, by show (0 : Int) ≤ 9223372036854775807; omega, Nat.zero_le _, Nat.zero_le _, Nat.zero_le _⟩
      · split
        · exact ⟨by show 0 < 18446744073709551616; omega, by show (-9223372036854775808 : Int) ≤ 0; omega, by show (0 : Int) ≤ 9223372036854775807; omega, h.s, Nat.zero_le _, Nat.zero_le _⟩
        · exact ⟨by show 0 < 18446744073709551616; omega, by show (-9223372036854775808 : Int) ≤ 0; omega, by show (0 : Int) ≤ 9223372036854775807; omega, Nat.zero_le _, h.l, h.e⟩
theorem enc_pure_len {v : CV} (h : VIn v) (hs : vsz v ≤ 4000) : (enc (pureC v)).length ≤ 10 * vsz v := by
  have h0 : 1 ≤ vsz v := by unfold vsz; omega
  have h1 : sumL v.l ≤ 4000 := by unfold vsz at hs; omega
  have h2 := encL_len v.l fun x hx => by have := sumL_mem hx; omega
  have h3 := uv_len10 h.u
  have h4 := uv_len10 (zz_lt h.i1 h.i2)
  have h5 := uv_len10 (show v.s.length < 18446744073709551616 by unfold vsz at hs; omega)
  have h6 := uv_len10 (show v.l.length < 18446744073709551616 by unfold vsz at hs; omega)
  unfold pureC
  split
  · rw [enc0 rfl]; show (uv v.u).length ≤ _; omega
  · split
    · rw [enc1 rfl]; show (uv (zz v.i)).length ≤ _; omega
    · split
      · rw [enc2 rfl]; show 1 ≤ _; omega
      · split
        · rw [enc3 rfl]; show (uv v.s.length ++ v.s).length ≤ _; rw [List.length_append]; unfold vsz; omega
        · rw [enc4 (show ¬ (4 : Int) = 0 by decide) (show ¬ (4 : Int) = 1 by decide) (show ¬ (4 : Int) = 2 by decide) (show ¬ (4 : Int) = 3 by decide)]; show (uv v.l.length ++ encL v.l).length ≤ _; rw [List.length_append]; unfold vsz; omega
theorem encAll_len {l : List CV} (h : ∀ v ∈ l, VIn v) (hs : tot l ≤ 4000) : (encAll l).length ≤ 10 * tot l := by
  induction l with
  | nil => simp [encAll]
  | cons v r ih =>
    simp only [tot, List.map_cons, List.sum_cons] at hs ih ⊢
    have h1 := ih (fun x hx => h x (List.mem_cons_of_mem _ hx)) (by omega)
    have h2 := enc_pure_len (h v (List.mem_cons_self ..)) (by omega)
    simp only [encAll, List.length_append]; omega
theorem encode_p (v : CV) (hv : VOk v) : PCalls Try.prog 15 [.d (vD v)] (bytesD (enc v)) := by
  have h := (encode_902 v hv).frozen (by simp)
  rwa [List.take_of_length_le (by simp)] at h
theorem encAll_take_len {l : List CV} (h : ∀ v ∈ l, VIn v) (hs : tot l ≤ 4000) (k : Nat) : (encAll (l.take k)).length ≤ 40000 := by
  have h1 := tot_le l k
  have h2 := encAll_len (l := l.take k) (fun v hv => h v (List.mem_of_mem_take hv)) (by omega)
  omega
set_option maxHeartbeats 2000000 in
theorem write_p (l : List CV) (blob : Bool) (hl : l.length ≤ 140737488351232) (hv : ∀ v ∈ l, VIn v) : PCalls Try.prog 3 [.d (.sl none (l.map vD)), .d (.raw (.bool blob))] (.raw (.bool true)) := by
  refine a_enter Try.func3 rfl rfl Try.ntmps3 rfl rfl rfl fun F hF => ?_
  refine a_seq ?_
  refine a_region ?_
  refine Pstep.go (st_assign rfl rfl) ?_
  refine o_nil ?_
  refine a_seq ?_
  refine a_seq ?_
  refine a_region ?_
  refine Pstep.go (st_callP (known_p) rfl rfl) ?_
  first | refine Pstep.go (st_notP rfl rfl) ?_ | refine Pstep.go (st_not rfl rfl) ?_
  refine Pstep.go (st_move rfl rfl) ?_
  refine o_setF 12 rfl (rfl) ?_
  refine o_run rfl rfl rfl ?_
  refine Pstep.go (st_move rfl rfl) ?_
  refine o_run rfl rfl rfl ?_
  refine Pstep.go (st_callP (small_p l hl hv) rfl rfl) ?_
  refine o_run rfl rfl rfl ?_
  first | refine Pstep.go (st_notP rfl rfl) ?_ | refine Pstep.go (st_not rfl rfl) ?_
  refine Pstep.go (st_pickF rfl rfl rfl rfl) ?_
  refine o_nil ?_
  first | refine a_if rfl (fun h16 => ?_) (fun h16 => ?_) | refine a_cond rfl (fun h16 => ?_) (fun h16 => ?_)
  · refine a_seq ?_
    refine a_region ?_
    refine Pstep.go (st_callP (known_p) rfl rfl) ?_
    refine Pstep.go (st_assign rfl rfl) ?_
    refine o_nil ?_
    refine a_ret ?_
    exact ⟨_, [], [], res_of rfl, rfl, rfl, by first | rfl | simp, rfl⟩
  · refine a_skip ?_
    refine a_seq ?_
    have hsm : tot l ≤ 4000 := by have h := h16; omega
    refine a_region ?_
    refine Estep.go (st_callD newWriter_900 rfl [900, 901] ⟨rfl, rfl, trivial⟩ rfl rfl rfl rfl rfl rfl rfl rfl rfl) ?_
    refine Pstep.go (st_assign rfl rfl) ?_
    refine o_nil ?_
    refine a_seq ?_
    refine a_region ?_
    refine Pstep.go (st_assign rfl rfl) ?_
    refine o_adopt 6 940 sl27 rfl rfl rfl rfl ?_
    refine o_nil ?_
    refine a_seq ?_
    refine a_seq ?_
    refine a_region ?_
    refine Pstep.go (st_assign rfl rfl) ?_
    refine o_nil ?_
    refine a_block ?_
    refine a_loopP (α := Nat × List UInt8) (fun p => ⟨67, [(0, .d (.sl none (l.map vD))), (1, .d (.raw (.bool blob))), (5, .ptr 900 0 0), (6, (.own 940 0 p.2.length)), (7, (.d (.raw (.int .i64 (p.1 : Int)))))], [(900, [.blk 63 [.own 901 0 p.2.length]]), (901, [.rowD 5 1 (p.2.map byteD)]), (940, [.rowD 5 1 (p.2.map byteD)])]⟩) (fun p => p.1 ≤ l.length ∧ p.2 = encAll (l.take p.1)) (fun p => l.length - p.1) ((0, [])) (⟨Nat.zero_le _, by simp [encAll]⟩) (lep_of hF [900, 901, 940] rfl rfl ⟨rfl, rfl, rfl, rfl, rfl, trivial⟩) ?_
    rintro ⟨k, z⟩ ⟨hk0, hz⟩
    dsimp only at hk0 hz ⊢
    refine a_seq ?_
    refine a_seq ?_
    refine a_region ?_
    refine Pstep.go (st_move rfl rfl) ?_
    refine Pstep.go (st_move rfl rfl) ?_
    first | refine Pstep.go (st_lenMap rfl Try.underlying22 rfl) ?_ | refine Pstep.go (st_lenD rfl rfl Try.underlying22 rfl) ?_ | refine Pstep.go (st_lenO rfl Try.underlying22 rfl) ?_ | refine Pstep.go (st_lenSL rfl Try.underlying22 rfl) ?_ | refine Pstep.go (st_lenS rfl Try.underlying22 rfl) ?_
    first | refine Pstep.go (st_lss rfl rfl rfl) ?_ | refine Pstep.go (st_lssS rfl rfl rfl) ?_
    refine o_nil ?_
    first | refine a_if rfl (fun h22 => ?_) (fun h22 => ?_) | refine a_cond rfl (fun h22 => ?_) (fun h22 => ?_)
    · refine a_skip ?_
      refine a_seq ?_
      refine a_block ?_
      refine a_seq ?_
      refine a_region ?_
      have hk : k < l.length := lt_cast h22
      have hvk := hv l[k] (List.getElem_mem hk)
      have hsk : vsz l[k] ≤ 4000 := Nat.le_trans (tot_mem (List.getElem_mem hk)) hsm
      have hok := hvk.ok hsk
      have hzl : z.length ≤ 40000 := by rw [hz]; exact encAll_take_len hv hsm k
      have hel := enc_pure_len hvk hsk
      refine Pstep.go (st_move rfl rfl) ?_
      refine Pstep.go (st_move rfl rfl) ?_
      refine Pstep.go (st_move rfl rfl) ?_
      first | refine Pstep.go (st_indexD (k) rfl rfl (rfl) (getm hk) Try.underlying22 rfl sz32 rfl) ?_ | refine Pstep.go (st_indexO (k) rfl rfl (rfl) (getm hk) rfl Try.underlying22 sz32 rfl) ?_
      first | refine Pstep.go (st_loadDS rfl rfl rw32 rfl) ?_ | refine Pstep.go (st_loadPS rfl rfl rw32 rfl rfl rfl) ?_ | refine Pstep.go (st_loadRS rfl rfl (rfl) rfl rw32 rfl) ?_
      refine Pstep.go (st_move rfl rfl) ?_
      refine Estep.go (st_callD (put_900 z l[k] blob hok (by omega)) rfl [900, 901] ⟨rfl, rfl, trivial⟩ rfl rfl rfl rfl rfl rfl rfl rfl rfl) ?_
      refine o_nil ?_
      refine a_seq ?_
      refine a_region ?_
      refine Pstep.go (st_move rfl rfl) ?_
      refine Pstep.go (st_move rfl rfl) ?_
      refine Pstep.go (st_move rfl rfl) ?_
      first | refine Pstep.go (st_indexD (k) rfl rfl (rfl) (getm hk) Try.underlying22 rfl sz32 rfl) ?_ | refine Pstep.go (st_indexO (k) rfl rfl (rfl) (getm hk) rfl Try.underlying22 sz32 rfl) ?_
      first | refine Pstep.go (st_loadDS rfl rfl rw32 rfl) ?_ | refine Pstep.go (st_loadPS rfl rfl rw32 rfl rfl rfl) ?_ | refine Pstep.go (st_loadRS rfl rfl (rfl) rfl rw32 rfl) ?_
      refine Pstep.go (st_callP (pure_p l[k]) rfl rfl) ?_
      refine Pstep.go (st_callP (encode_p _ hok.pure) rfl rfl) ?_
      first | refine Estep.go (st_appM (z) (enc (pureC l[k])) rfl rfl rfl rfl rfl rfl rfl rfl sl27 (by first | omega | (simp only [List.length_append, List.length_cons, List.length_nil]; omega)) rfl rfl rfl rfl) ?_ | refine Estep.go (st_appMD (z) (enc (pureC l[k])) rfl rfl rfl rfl rfl rfl (fun _ => rfl) sl27 (by first | omega | (simp only [List.length_append, List.length_cons, List.length_nil]; omega)) rfl rfl rfl rfl) ?_
      refine Pstep.go (st_assign rfl rfl) ?_
      refine o_nil ?_
      refine a_seq ?_
      refine a_region ?_
      refine Pstep.go (st_move rfl rfl) ?_
      refine Estep.go (st_callD (wLen_900 (z ++ enc (pureC l[k]))) rfl [900, 901] ⟨rfl, rfl, trivial⟩ rfl rfl rfl rfl rfl rfl rfl rfl rfl) ?_
      refine Pstep.go (st_move rfl rfl) ?_
      first | refine Pstep.go (st_lenMap rfl Try.underlying27 rfl) ?_ | refine Pstep.go (st_lenD rfl rfl Try.underlying27 rfl) ?_ | refine Pstep.go (st_lenO rfl Try.underlying27 rfl) ?_ | refine Pstep.go (st_lenSL rfl Try.underlying27 rfl) ?_ | refine Pstep.go (st_lenS rfl Try.underlying27 rfl) ?_
      first | refine Pstep.go (st_neq rfl rfl rfl) ?_ | refine Pstep.go (st_neqSL rfl rfl rfl) ?_ | refine Pstep.go (st_neqS rfl rfl rfl) ?_ | refine Pstep.go (st_neqB Try.underlying3 rfl rfl rfl) ?_ | refine Pstep.go (st_neqP Try.underlying3 rfl rfl rfl) ?_ | refine Pstep.go (st_neqN Try.underlying3 rfl rfl) ?_ | refine Pstep.go (st_neqF Try.underlying3 rfl rfl rfl) ?_ | refine Pstep.go (st_neqFN Try.underlying3 rfl rfl) ?_
      refine o_nil ?_
      refine a_false rfl (decide_eq_false (by simp)) ?_
      refine a_skip ?_
      refine a_region ?_
      refine Pstep.go (st_move rfl rfl) ?_
      refine Pstep.go (st_add rfl rfl (IntWalk.i64_in _ (by omega)) rfl) ?_
      refine Pstep.go (st_assign rfl rfl) ?_
      refine o_nil ?_
      exact ⟨(k + 1, z ++ enc (pureC l[k])), ⟨by show k + 1 ≤ _; omega, by show _ = encAll (l.take (k + 1)); rw [encAll_at hk, hz]⟩, by show l.length - (k + 1) < l.length - k; omega, lep_of hF [900, 901, 940] rfl (rfl) ⟨rfl, rfl, rfl, rfl, rfl, trivial⟩⟩
    · refine a_exit ?_
      refine a_seq ?_
      have hzl : z.length ≤ 40000 := by rw [hz]; exact encAll_take_len hv hsm k
      refine a_region ?_
      refine Pstep.go (st_move rfl rfl) ?_
      refine Estep.go (st_callD (wBytes_900 z (by omega)) rfl [900, 901, 902] ⟨rfl, rfl, rfl, trivial⟩ rfl rfl rfl rfl rfl rfl rfl rfl rfl) ?_
      refine Pstep.go (st_assign rfl rfl) ?_
      refine o_nil ?_
      refine a_seq ?_
      refine a_seq ?_
      refine a_region ?_
      refine Pstep.go (st_move rfl rfl) ?_
      refine Pstep.go (st_convBSO z rfl rfl (by simp) rfl Try.underlying27 Try.underlying5 Try.underlying9 rfl) ?_
      refine Pstep.go (st_move rfl rfl) ?_
      refine Pstep.go (st_convBSO z rfl rfl (by simp) rfl Try.underlying27 Try.underlying5 Try.underlying9 rfl) ?_
      first | refine Pstep.go (st_neq rfl rfl rfl) ?_ | refine Pstep.go (st_neqSL rfl rfl rfl) ?_ | refine Pstep.go (st_neqS rfl rfl rfl) ?_ | refine Pstep.go (st_neqB Try.underlying9 rfl rfl rfl) ?_ | refine Pstep.go (st_neqP Try.underlying9 rfl rfl rfl) ?_ | refine Pstep.go (st_neqN Try.underlying9 rfl rfl) ?_ | refine Pstep.go (st_neqF Try.underlying9 rfl rfl rfl) ?_ | refine Pstep.go (st_neqFN Try.underlying9 rfl rfl) ?_
      refine o_nil ?_
      refine a_false rfl (decide_eq_false (by simp)) ?_
      refine a_skip ?_
      refine a_seq ?_
      refine a_seq ?_
      refine a_region ?_
      refine Pstep.go (st_assign rfl rfl) ?_
      refine o_nil ?_
      refine a_block ?_
      refine a_loopP (α := Nat × List UInt8) (fun p => ⟨67, [(5, .ptr 900 0 0), (6, (.own 940 0 z.length)), (8, (.own 902 0 z.length)), (9, (.d (.raw (.int .i64 (p.1 : Int)))))], [(900, [.blk 63 [.own 901 0 z.length]]), (901, [.rowD 5 1 (z.map byteD)]), (902, [.rowD 5 1 (p.2.map byteD)]), (940, [.rowD 5 1 (z.map byteD)])]⟩) (fun p => p.1 ≤ z.length ∧ p.2.length = z.length) (fun p => z.length - p.1) ((0, z)) (⟨Nat.zero_le _, rfl⟩) (lep_of hF [900, 901, 902, 940] rfl rfl ⟨rfl, rfl, rfl, rfl, trivial⟩) ?_
      rintro ⟨j, y⟩ ⟨hj0, hy⟩
      dsimp only at hj0 hy ⊢
      refine a_seq ?_
      refine a_seq ?_
      refine a_region ?_
      refine Pstep.go (st_move rfl rfl) ?_
      refine Pstep.go (st_move rfl rfl) ?_
      first | refine Pstep.go (st_lenMap rfl Try.underlying27 rfl) ?_ | refine Pstep.go (st_lenD rfl rfl Try.underlying27 rfl) ?_ | refine Pstep.go (st_lenO rfl Try.underlying27 rfl) ?_ | refine Pstep.go (st_lenSL rfl Try.underlying27 rfl) ?_ | refine Pstep.go (st_lenS rfl Try.underlying27 rfl) ?_
      first | refine Pstep.go (st_lss rfl rfl rfl) ?_ | refine Pstep.go (st_lssS rfl rfl rfl) ?_
      refine o_nil ?_
      first | refine a_if rfl (fun h55 => ?_) (fun h55 => ?_) | refine a_cond rfl (fun h55 => ?_) (fun h55 => ?_)
      · refine a_skip ?_
        refine a_seq ?_
        refine a_block ?_
        refine a_region ?_
        have hj : j < z.length := lt_cast h55
        refine Pstep.go (st_move rfl rfl) ?_
        refine Pstep.go (st_move rfl rfl) ?_
        first | refine Pstep.go (st_indexD (j) rfl rfl (rfl) (hj) Try.underlying27 rfl sz5 rfl) ?_ | refine Pstep.go (st_indexO (j) rfl rfl (rfl) (hj) rfl Try.underlying27 sz5 rfl) ?_
        refine Estep.go (st_storeM (y) (238) rfl rfl rfl rfl rfl rfl (by omega) rfl sz5) ?_
        refine o_nil ?_
        refine a_region ?_
        refine Pstep.go (st_move rfl rfl) ?_
        refine Pstep.go (st_add rfl rfl (IntWalk.i64_in _ (by omega)) rfl) ?_
        refine Pstep.go (st_assign rfl rfl) ?_
        refine o_nil ?_
        exact ⟨(j + 1, y.set j 238), ⟨by show j + 1 ≤ _; omega, by simpa using hy⟩, by show z.length - (j + 1) < z.length - j; omega, lep_of hF [900, 901, 902, 940] rfl (rfl) ⟨rfl, rfl, rfl, rfl, trivial⟩⟩
      · refine a_exit ?_
        refine a_seq ?_
        refine a_only [900, 901, 940] hF rfl rfl ?_
        refine a_drawn [[], [0], [0, 1], [], [3], [0, 1, 2, 3, 4], [0, 1, 2, 3, 4, 5]] mixed rfl ?_
        refine dws ?_
        first | refine d_pure [5] [] rfl rfl (fun _ => gp_none (st_move rfl rfl)) ?_ | refine d_pureA [5] rfl rfl (fun _ => gp_none (st_move rfl rfl)) ?_
        refine d_eff [61] [900, 901, 902] [(62, _)] rfl rfl (fun _ => ge_none (st_callD (wBytes_900 z (by omega)) rfl [900, 901, 902] ⟨rfl, rfl, rfl, trivial⟩ rfl rfl rfl rfl rfl rfl rfl rfl rfl)) (.inr ⟨62, _, rfl, rfl, rfl, rfl, rfl⟩) rfl rfl rfl rfl rfl ?_
        refine d_pure [62] [902] rfl rfl (fun _ => gp_none (st_convBSO z rfl rfl (by simp) rfl Try.underlying27 Try.underlying5 Try.underlying9 rfl)) ?_
        first | refine d_pure [6] [] rfl rfl (fun _ => gp_none (st_move rfl rfl)) ?_ | refine d_pureA [6] rfl rfl (fun _ => gp_none (st_move rfl rfl)) ?_
        refine d_pure [64] [940] rfl rfl (fun _ => gp_none (st_convBSO z rfl rfl (by simp) rfl Try.underlying27 Try.underlying5 Try.underlying9 rfl)) ?_
        refine dwc 5 rfl rfl rfl ?_
        refine dw1 6 rfl rfl ?_
        first | refine Pstep.go (st_eql rfl rfl rfl) ?_ | refine Pstep.go (st_eqlSL rfl rfl rfl) ?_ | refine Pstep.go (st_eqlS rfl rfl rfl) ?_ | refine Pstep.go (st_eqlB Try.underlying9 rfl rfl rfl) ?_ | refine Pstep.go (st_eqlP Try.underlying9 rfl rfl rfl) ?_ | refine Pstep.go (st_eqlN Try.underlying9 rfl rfl) ?_ | refine Pstep.go (st_eqlF Try.underlying9 rfl rfl rfl) ?_ | refine Pstep.go (st_eqlFN Try.underlying9 rfl rfl) ?_
        refine o_nil ⟨rfl, ?_⟩
        refine dw1 7 rfl rfl ?_
        refine Pstep.go (st_assign rfl rfl) ?_
        refine o_nil ⟨rfl, ?_⟩
        refine dwe ?_
        refine a_ret ?_
        exact ⟨_, [], [], res_of rfl, rfl, rfl, by first | rfl | simp, rfl⟩
end Go.Proofs.Ytjbghmlofjkcfaa
