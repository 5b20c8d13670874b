/- The walks of the law's small, known, and of the reference's Same. -/
import Derived.Test.YtjbghmlofjkcfaaCodQ
namespace Go.Proofs.Ytjbghmlofjkcfaa
open Go.RowKit

/-- How much a value is. -/
def sumL (l : List (List UInt8)) : Nat := (l.map List.length).sum
def vsz (v : CV) : Nat := 1 + v.s.length + v.l.length + sumL v.l
def tot (l : List CV) : Nat := (l.map vsz).sum
structure VIn (v : CV) : Prop where
  u : v.u < 18446744073709551616
  k1 : -9223372036854775808 ≤ v.k
  k2 : v.k ≤ 9223372036854775807
  i1 : -9223372036854775808 ≤ v.i
  i2 : v.i ≤ 9223372036854775807
  s : v.s.length ≤ 140737488351232
  l : v.l.length ≤ 140737488351232
  e : ∀ x ∈ v.l, x.length ≤ 140737488351232
theorem sumL_take {l : List (List UInt8)} {k : Nat} (hk : k < l.length) : sumL (l.take (k + 1)) = sumL (l.take k) + l[k].length := by
  unfold sumL; rw [List.take_succ_eq_append_getElem hk, List.map_append, List.sum_append]; simp only [List.map_cons, List.map_nil, List.sum_cons, List.sum_nil, Nat.add_zero]
theorem sumL_le (l : List (List UInt8)) (k : Nat) : sumL (l.take k) ≤ sumL l := by
  unfold sumL
  have : ((l.take k).map List.length).sum + ((l.drop k).map List.length).sum = (l.map List.length).sum := by rw [← List.sum_append, ← List.map_append, List.take_append_drop]
  omega
theorem tot_take {l : List CV} {k : Nat} (hk : k < l.length) : tot (l.take (k + 1)) = tot (l.take k) + vsz l[k] := by
  unfold tot; rw [List.take_succ_eq_append_getElem hk, List.map_append, List.sum_append]; simp only [List.map_cons, List.map_nil, List.sum_cons, List.sum_nil, Nat.add_zero]
theorem tot_le (l : List CV) (k : Nat) : tot (l.take k) ≤ tot l := by
  unfold tot
  have : ((l.take k).map vsz).sum + ((l.drop k).map vsz).sum = (l.map vsz).sum := by rw [← List.sum_append, ← List.map_append, List.take_append_drop]
  omega
set_option maxHeartbeats 2000000 in
theorem small_p (l : List CV) (hl : l.length ≤ 140737488351232) (hv : ∀ v ∈ l, VIn v) : PCalls Try.prog 12 [.d (.sl none (l.map vD))] (.raw (.bool (decide (tot l ≤ 4000)))) := by
  refine a_enter Try.func12 rfl rfl Try.ntmps12 rfl rfl rfl fun F hF => ?_
  refine a_seq ?_
  refine a_region ?_
  refine Pstep.go (st_assign rfl rfl) ?_
  refine o_nil ?_
  refine a_seq ?_
  refine a_region ?_
  refine Pstep.go (st_assign rfl rfl) ?_
  refine o_nil ?_
  refine a_seq ?_
  refine a_seq ?_
  refine a_region ?_
  refine Pstep.go (st_assign rfl rfl) ?_
  refine o_nil ?_
  refine a_block ?_
  refine a_loopP (α := Nat × Nat) (fun p => ⟨59, [(0, .d (.sl none (l.map vD))), (3, (.d (.raw (.int .i64 (p.2 : Int))))), (4, (.d (.raw (.int .i64 (p.1 : Int)))))], []⟩) (fun p => p.1 ≤ l.length ∧ p.2 ≤ tot (l.take p.1) ∧ (p.2 ≤ 4000 → p.2 = tot (l.take p.1)) ∧ p.2 ≤ 1000000000000000) (fun p => l.length - p.1) ((0, 0)) (⟨Nat.zero_le _, Nat.zero_le _, fun _ => rfl, by show 0 ≤ 1000000000000000; omega⟩) (lep_of hF [] rfl rfl ⟨rfl, rfl, rfl, trivial⟩) ?_
  rintro ⟨i, n⟩ ⟨hi0, hn1, hn2, hn3⟩
  dsimp only at hi0 hn1 hn2 hn3 ⊢
  refine a_seq ?_
  refine a_seq ?_
  refine a_region ?_
  refine Pstep.go (st_move rfl rfl) ?_
  refine Pstep.go (st_move rfl rfl) ?_
  first | refine Pstep.go (st_lenMap rfl Try.underlying22 rfl) ?_ | refine Pstep.go (st_lenD rfl rfl Try.underlying22 rfl) ?_ | refine Pstep.go (st_lenO rfl Try.underlying22 rfl) ?_ | refine Pstep.go (st_lenSL rfl Try.underlying22 rfl) ?_ | refine Pstep.go (st_lenS rfl Try.underlying22 rfl) ?_
  first | refine Pstep.go (st_lss rfl rfl rfl) ?_ | refine Pstep.go (st_lssS rfl rfl rfl) ?_
  refine Pstep.go (st_move rfl rfl) ?_
  first | refine o_splitP 10 rfl (fun h10 => ?_) (fun h10 => ?_) | refine o_splitB 10 rfl (fun h10 => ?_) (fun h10 => ?_)
  · refine o_run rfl rfl rfl ?_
    refine Pstep.go (st_move rfl rfl) ?_
    refine o_run rfl rfl rfl ?_
    refine Pstep.go (st_leq rfl rfl rfl) ?_
    refine Pstep.go (st_pickT rfl rfl rfl rfl) ?_
    refine o_nil ?_
    first | refine a_if rfl (fun h13 => ?_) (fun h13 => ?_) | refine a_cond rfl (fun h13 => ?_) (fun h13 => ?_)
    · refine a_skip ?_
      refine a_seq ?_
      refine a_block ?_
      refine a_seq ?_
      refine a_drawn [[], [0], [], [], [2, 3], [2, 3, 4], [2, 3, 4, 5], [2, 3, 4, 5, 6], [0, 1, 2, 3, 4, 5, 6, 7], [], [], [9, 10], [9, 10, 11], [9, 10, 11, 12], [9, 10, 11, 12, 13], [0, 1, 2, 3, 4, 5, 6, 7, 8, 9, 10, 11, 12, 13, 14], [0, 1, 2, 3, 4, 5, 6, 7, 8, 9, 10, 11, 12, 13, 14, 15]] mixed rfl ?_
      refine dws ?_
      have hi : i < l.length := lt_cast h10
      have hn4 : n ≤ 4000 := by have h := h13; omega
      have hn5 := hn2 hn4
      have hvi := hv l[i] (List.getElem_mem hi)
      have a1 := hvi.s
      have a2 := hvi.l
      first | refine d_pure [3] [] rfl rfl (fun _ => gp_none (st_move rfl rfl)) ?_ | refine d_pureA [3] rfl rfl (fun _ => gp_none (st_move rfl rfl)) ?_
      first | refine d_pure [16] [] rfl rfl (fun _ => gp_none (st_add rfl rfl (IntWalk.i64_in _ (by omega)) rfl)) ?_ | refine d_pureA [16] rfl rfl (fun _ => gp_none (st_add rfl rfl (IntWalk.i64_in _ (by omega)) rfl)) ?_
      first | refine d_pure [0] [] rfl rfl (fun _ => gp_none (st_move rfl rfl)) ?_ | refine d_pureA [0] rfl rfl (fun _ => gp_none (st_move rfl rfl)) ?_
      first | refine d_pure [4] [] rfl rfl (fun _ => gp_none (st_move rfl rfl)) ?_ | refine d_pureA [4] rfl rfl (fun _ => gp_none (st_move rfl rfl)) ?_
      first | refine d_pure [18, 19] [] rfl rfl (fun _ => gp_none (st_indexD (i) rfl rfl (rfl) (getm hi) Try.underlying22 rfl sz32 rfl)) ?_ | refine d_pureA [18, 19] rfl rfl (fun _ => gp_none (st_indexD (i) rfl rfl (rfl) (getm hi) Try.underlying22 rfl sz32 rfl)) ?_ | refine d_pure [18, 19] [] rfl rfl (fun _ => gp_none (st_indexO (i) rfl rfl (rfl) (getm hi) rfl Try.underlying22 sz32 rfl)) ?_ | refine d_pureA [18, 19] rfl rfl (fun _ => gp_none (st_indexO (i) rfl rfl (rfl) (getm hi) rfl Try.underlying22 sz32 rfl)) ?_
      first | refine d_pure [20] [] rfl rfl (fun _ => gp_none (st_fieldP rfl fi32_4 rfl rfl rfl)) ?_ | refine d_pureA [20] rfl rfl (fun _ => gp_none (st_fieldP rfl fi32_4 rfl rfl rfl)) ?_ | refine d_pure [20] [] rfl rfl (fun _ => gp_none (st_fieldF1 rfl fi32_4 rfl rfl rfl)) ?_ | refine d_pureA [20] rfl rfl (fun _ => gp_none (st_fieldF1 rfl fi32_4 rfl rfl rfl)) ?_ | refine d_pure [20] [] rfl rfl (fun _ => gp_none (st_fieldFS rfl fi32_4 rfl rfl rfl)) ?_ | refine d_pureA [20] rfl rfl (fun _ => gp_none (st_fieldFS rfl fi32_4 rfl rfl rfl)) ?_ | refine d_pure [20] [] rfl rfl (fun _ => gp_none (st_fieldR rfl fi32_4 rfl rfl rfl)) ?_ | refine d_pureA [20] rfl rfl (fun _ => gp_none (st_fieldR rfl fi32_4 rfl rfl rfl)) ?_
      first | refine d_pure [21] [] rfl rfl (fun _ => gp_none (st_loadD1 rfl rfl on9 rfl)) ?_ | refine d_pureA [21] rfl rfl (fun _ => gp_none (st_loadD1 rfl rfl on9 rfl)) ?_ | refine d_pure [21] [] rfl rfl (fun _ => gp_none (st_loadP rfl rfl rfl on9 rfl)) ?_ | refine d_pureA [21] rfl rfl (fun _ => gp_none (st_loadP rfl rfl rfl on9 rfl)) ?_ | refine d_pure [21] [] rfl rfl (fun _ => gp_none (st_loadR rfl rfl (rfl) rfl on9 rfl)) ?_ | refine d_pureA [21] rfl rfl (fun _ => gp_none (st_loadR rfl rfl (rfl) rfl on9 rfl)) ?_
      first | refine d_pure [22] [] rfl rfl (fun _ => gp_none (st_lenMap rfl Try.underlying9 rfl)) ?_ | refine d_pureA [22] rfl rfl (fun _ => gp_none (st_lenMap rfl Try.underlying9 rfl)) ?_ | refine d_pure [22] [] rfl rfl (fun _ => gp_none (st_lenD rfl rfl Try.underlying9 rfl)) ?_ | refine d_pureA [22] rfl rfl (fun _ => gp_none (st_lenD rfl rfl Try.underlying9 rfl)) ?_ | refine d_pure [22] [] rfl rfl (fun _ => gp_none (st_lenO rfl Try.underlying9 rfl)) ?_ | refine d_pureA [22] rfl rfl (fun _ => gp_none (st_lenO rfl Try.underlying9 rfl)) ?_ | refine d_pure [22] [] rfl rfl (fun _ => gp_none (st_lenSL rfl Try.underlying9 rfl)) ?_ | refine d_pureA [22] rfl rfl (fun _ => gp_none (st_lenSL rfl Try.underlying9 rfl)) ?_ | refine d_pure [22] [] rfl rfl (fun _ => gp_none (st_lenS rfl Try.underlying9 rfl)) ?_ | refine d_pureA [22] rfl rfl (fun _ => gp_none (st_lenS rfl Try.underlying9 rfl)) ?_
      first | refine d_pure [17, 23] [] rfl rfl (fun _ => gp_none (st_add rfl rfl (IntWalk.i64_in _ (by omega)) rfl)) ?_ | refine d_pureA [17, 23] rfl rfl (fun _ => gp_none (st_add rfl rfl (IntWalk.i64_in _ (by omega)) rfl)) ?_
      first | refine d_pure [0] [] rfl rfl (fun _ => gp_none (st_move rfl rfl)) ?_ | refine d_pureA [0] rfl rfl (fun _ => gp_none (st_move rfl rfl)) ?_
      first | refine d_pure [4] [] rfl rfl (fun _ => gp_none (st_move rfl rfl)) ?_ | refine d_pureA [4] rfl rfl (fun _ => gp_none (st_move rfl rfl)) ?_
      first | refine d_pure [25, 26] [] rfl rfl (fun _ => gp_none (st_indexD (i) rfl rfl (rfl) (getm hi) Try.underlying22 rfl sz32 rfl)) ?_ | refine d_pureA [25, 26] rfl rfl (fun _ => gp_none (st_indexD (i) rfl rfl (rfl) (getm hi) Try.underlying22 rfl sz32 rfl)) ?_ | refine d_pure [25, 26] [] rfl rfl (fun _ => gp_none (st_indexO (i) rfl rfl (rfl) (getm hi) rfl Try.underlying22 sz32 rfl)) ?_ | refine d_pureA [25, 26] rfl rfl (fun _ => gp_none (st_indexO (i) rfl rfl (rfl) (getm hi) rfl Try.underlying22 sz32 rfl)) ?_
      first | refine d_pure [27] [] rfl rfl (fun _ => gp_none (st_fieldP rfl fi32_5 rfl rfl rfl)) ?_ | refine d_pureA [27] rfl rfl (fun _ => gp_none (st_fieldP rfl fi32_5 rfl rfl rfl)) ?_ | refine d_pure [27] [] rfl rfl (fun _ => gp_none (st_fieldF1 rfl fi32_5 rfl rfl rfl)) ?_ | refine d_pureA [27] rfl rfl (fun _ => gp_none (st_fieldF1 rfl fi32_5 rfl rfl rfl)) ?_ | refine d_pure [27] [] rfl rfl (fun _ => gp_none (st_fieldFS rfl fi32_5 rfl rfl rfl)) ?_ | refine d_pureA [27] rfl rfl (fun _ => gp_none (st_fieldFS rfl fi32_5 rfl rfl rfl)) ?_ | refine d_pure [27] [] rfl rfl (fun _ => gp_none (st_fieldR rfl fi32_5 rfl rfl rfl)) ?_ | refine d_pureA [27] rfl rfl (fun _ => gp_none (st_fieldR rfl fi32_5 rfl rfl rfl)) ?_
      first | refine d_pure [28] [] rfl rfl (fun _ => gp_none (st_loadD1 rfl rfl on30 rfl)) ?_ | refine d_pureA [28] rfl rfl (fun _ => gp_none (st_loadD1 rfl rfl on30 rfl)) ?_ | refine d_pure [28] [] rfl rfl (fun _ => gp_none (st_loadP rfl rfl rfl on30 rfl)) ?_ | refine d_pureA [28] rfl rfl (fun _ => gp_none (st_loadP rfl rfl rfl on30 rfl)) ?_ | refine d_pure [28] [] rfl rfl (fun _ => gp_none (st_loadR rfl rfl (rfl) rfl on30 rfl)) ?_ | refine d_pureA [28] rfl rfl (fun _ => gp_none (st_loadR rfl rfl (rfl) rfl on30 rfl)) ?_
      first | refine d_pure [29] [] rfl rfl (fun _ => gp_none (st_lenMap rfl Try.underlying30 rfl)) ?_ | refine d_pureA [29] rfl rfl (fun _ => gp_none (st_lenMap rfl Try.underlying30 rfl)) ?_ | refine d_pure [29] [] rfl rfl (fun _ => gp_none (st_lenD rfl rfl Try.underlying30 rfl)) ?_ | refine d_pureA [29] rfl rfl (fun _ => gp_none (st_lenD rfl rfl Try.underlying30 rfl)) ?_ | refine d_pure [29] [] rfl rfl (fun _ => gp_none (st_lenO rfl Try.underlying30 rfl)) ?_ | refine d_pureA [29] rfl rfl (fun _ => gp_none (st_lenO rfl Try.underlying30 rfl)) ?_ | refine d_pure [29] [] rfl rfl (fun _ => gp_none (st_lenSL rfl Try.underlying30 rfl)) ?_ | refine d_pureA [29] rfl rfl (fun _ => gp_none (st_lenSL rfl Try.underlying30 rfl)) ?_ | refine d_pure [29] [] rfl rfl (fun _ => gp_none (st_lenS rfl Try.underlying30 rfl)) ?_ | refine d_pureA [29] rfl rfl (fun _ => gp_none (st_lenS rfl Try.underlying30 rfl)) ?_
      refine dwc 15 rfl rfl rfl ?_
      refine dw1 16 rfl rfl ?_
      refine Pstep.go (st_add rfl rfl (IntWalk.i64_in _ (by omega)) rfl) ?_
      refine o_nil ⟨rfl, ?_⟩
      refine dw1 17 rfl rfl ?_
      refine Pstep.go (st_assign rfl rfl) ?_
      refine o_nil ⟨rfl, ?_⟩
      refine dwe ?_
      refine a_seq ?_
      refine a_region ?_
      refine Pstep.go (st_assign rfl rfl) ?_
      refine o_nil ?_
      refine a_block ?_
      refine a_loopP (α := Nat × Nat) (fun p => ⟨59, [(0, .d (.sl none (l.map vD))), (3, (.d (.raw (.int .i64 (p.2 : Int))))), (4, (.d (.raw (.int .i64 (i : Int))))), (5, (.d (.raw (.int .i64 (p.1 : Int)))))], []⟩) (fun p => p.1 ≤ l[i].l.length ∧ p.2 ≤ n + 1 + l[i].s.length + l[i].l.length + sumL (l[i].l.take p.1) ∧ (p.2 ≤ 4000 → p.2 = n + 1 + l[i].s.length + l[i].l.length + sumL (l[i].l.take p.1)) ∧ p.2 ≤ 1000000000000000) (fun p => l[i].l.length - p.1) ((0, n + 1 + l[i].s.length + l[i].l.length)) (⟨Nat.zero_le _, by simp [sumL], fun _ => by simp [sumL], by show n + 1 + _ + _ ≤ 1000000000000000; omega⟩) (lep_of hF [] rfl rfl ⟨rfl, rfl, rfl, rfl, trivial⟩) ?_
      rintro ⟨k, m⟩ ⟨hk0, hm1, hm2, hm3⟩
      dsimp only at hk0 hm1 hm2 hm3 ⊢
      refine a_seq ?_
      refine a_seq ?_
      refine a_region ?_
      refine Pstep.go (st_move rfl rfl) ?_
      refine Pstep.go (st_move rfl rfl) ?_
      refine Pstep.go (st_move rfl rfl) ?_
      first | refine Pstep.go (st_indexD (i) rfl rfl (rfl) (getm hi) Try.underlying22 rfl sz32 rfl) ?_ | refine Pstep.go (st_indexO (i) rfl rfl (rfl) (getm hi) rfl Try.underlying22 sz32 rfl) ?_
      first | refine Pstep.go (st_fieldP rfl fi32_5 rfl rfl rfl) ?_ | refine Pstep.go (st_fieldF1 rfl fi32_5 rfl rfl rfl) ?_ | refine Pstep.go (st_fieldFS rfl fi32_5 rfl rfl rfl) ?_ | refine Pstep.go (st_fieldR rfl fi32_5 rfl rfl rfl) ?_
      first | refine Pstep.go (st_loadD1 rfl rfl on30 rfl) ?_ | refine Pstep.go (st_loadP rfl rfl rfl on30 rfl) ?_ | refine Pstep.go (st_loadR rfl rfl (rfl) rfl on30 rfl) ?_
      first | refine Pstep.go (st_lenMap rfl Try.underlying30 rfl) ?_ | refine Pstep.go (st_lenD rfl rfl Try.underlying30 rfl) ?_ | refine Pstep.go (st_lenO rfl Try.underlying30 rfl) ?_ | refine Pstep.go (st_lenSL rfl Try.underlying30 rfl) ?_ | refine Pstep.go (st_lenS rfl Try.underlying30 rfl) ?_
      first | refine Pstep.go (st_lss rfl rfl rfl) ?_ | refine Pstep.go (st_lssS rfl rfl rfl) ?_
      refine Pstep.go (st_move rfl rfl) ?_
      first | refine o_splitP 40 rfl (fun h40 => ?_) (fun h40 => ?_) | refine o_splitB 40 rfl (fun h40 => ?_) (fun h40 => ?_)
      · refine o_run rfl rfl rfl ?_
        refine Pstep.go (st_move rfl rfl) ?_
        refine o_run rfl rfl rfl ?_
        refine Pstep.go (st_leq rfl rfl rfl) ?_
        refine Pstep.go (st_pickT rfl rfl rfl rfl) ?_
        refine o_nil ?_
        first | refine a_if rfl (fun h43 => ?_) (fun h43 => ?_) | refine a_cond rfl (fun h43 => ?_) (fun h43 => ?_)
        · refine a_skip ?_
          refine a_seq ?_
          refine a_block ?_
          refine a_region ?_
          have hk : k < l[i].l.length := lt_cast h40
          have hm4 : m ≤ 4000 := by have h := h43; omega
          have a3 := hvi.e _ (List.getElem_mem hk)
          refine Pstep.go (st_move rfl rfl) ?_
          refine Pstep.go (st_move rfl rfl) ?_
          refine Pstep.go (st_move rfl rfl) ?_
          first | refine Pstep.go (st_indexD (i) rfl rfl (rfl) (getm hi) Try.underlying22 rfl sz32 rfl) ?_ | refine Pstep.go (st_indexO (i) rfl rfl (rfl) (getm hi) rfl Try.underlying22 sz32 rfl) ?_
          first | refine Pstep.go (st_fieldP rfl fi32_5 rfl rfl rfl) ?_ | refine Pstep.go (st_fieldF1 rfl fi32_5 rfl rfl rfl) ?_ | refine Pstep.go (st_fieldFS rfl fi32_5 rfl rfl rfl) ?_ | refine Pstep.go (st_fieldR rfl fi32_5 rfl rfl rfl) ?_
          first | refine Pstep.go (st_loadD1 rfl rfl on30 rfl) ?_ | refine Pstep.go (st_loadP rfl rfl rfl on30 rfl) ?_ | refine Pstep.go (st_loadR rfl rfl (rfl) rfl on30 rfl) ?_
          refine Pstep.go (st_move rfl rfl) ?_
          first | refine Pstep.go (st_indexD (k) rfl rfl (rfl) (getm hk) Try.underlying30 rfl sz9 rfl) ?_ | refine Pstep.go (st_indexO (k) rfl rfl (rfl) (getm hk) rfl Try.underlying30 sz9 rfl) ?_
          first | refine Pstep.go (st_loadD1 rfl rfl on9 rfl) ?_ | refine Pstep.go (st_loadP rfl rfl rfl on9 rfl) ?_ | refine Pstep.go (st_loadR rfl rfl (rfl) rfl on9 rfl) ?_
          first | refine Pstep.go (st_lenMap rfl Try.underlying9 rfl) ?_ | refine Pstep.go (st_lenD rfl rfl Try.underlying9 rfl) ?_ | refine Pstep.go (st_lenO rfl Try.underlying9 rfl) ?_ | refine Pstep.go (st_lenSL rfl Try.underlying9 rfl) ?_ | refine Pstep.go (st_lenS rfl Try.underlying9 rfl) ?_
          refine Pstep.go (st_add rfl rfl (IntWalk.i64_in _ (by omega)) rfl) ?_
          refine Pstep.go (st_assign rfl rfl) ?_
          refine o_nil ?_
          refine a_region ?_
          refine Pstep.go (st_move rfl rfl) ?_
          refine Pstep.go (st_add rfl rfl (IntWalk.i64_in _ (by omega)) rfl) ?_
          refine Pstep.go (st_assign rfl rfl) ?_
          refine o_nil ?_
          exact ⟨(k + 1, m + l[i].l[k].length), ⟨by show k + 1 ≤ _; omega, by show m + _ ≤ _ + sumL (l[i].l.take (k + 1)); rw [sumL_take hk]; omega, fun h => by show m + _ = _ + sumL (l[i].l.take (k + 1)); rw [sumL_take hk]; have := hm2 hm4; omega, by show m + _ ≤ _; omega⟩, by show l[i].l.length - (k + 1) < l[i].l.length - k; omega, lep_of hF [] rfl (rfl) ⟨rfl, rfl, rfl, rfl, trivial⟩⟩
        · refine a_exit ?_
          refine a_region ?_
          refine Pstep.go (st_move rfl rfl) ?_
          refine Pstep.go (st_add rfl rfl (IntWalk.i64_in _ (by omega)) rfl) ?_
          refine Pstep.go (st_assign rfl rfl) ?_
          refine o_nil ?_
          exact ⟨(i + 1, m), ⟨by show i + 1 ≤ _; omega, by show m ≤ tot (l.take (i + 1)); rw [tot_take hi]; unfold vsz; have := sumL_le l[i].l k; omega, fun h => by show m = tot (l.take (i + 1)); rw [tot_take hi]; unfold vsz; have := hm2 h; first | (have e := h40; rw [List.take_of_length_le (by omega)] at this; omega) | (have e := h43; omega), hm3⟩, by show l.length - (i + 1) < l.length - i; omega, lep_of hF [] rfl (rfl) ⟨rfl, rfl, rfl, trivial⟩⟩
      · refine o_pass rfl rfl rfl rfl ?_
        refine o_pass rfl rfl rfl rfl ?_
        refine Pstep.go (st_pickF rfl rfl rfl rfl) ?_
        refine o_nil ?_
        refine a_false rfl rfl ?_
        refine a_exit ?_
        refine a_region ?_
        refine Pstep.go (st_move rfl rfl) ?_
        refine Pstep.go (st_add rfl rfl (IntWalk.i64_in _ (by omega)) rfl) ?_
        refine Pstep.go (st_assign rfl rfl) ?_
        refine o_nil ?_
        exact ⟨(i + 1, m), ⟨by show i + 1 ≤ _; omega, by show m ≤ tot (l.take (i + 1)); rw [tot_take hi]; unfold vsz; have := sumL_le l[i].l k; omega, fun h => by show m = tot (l.take (i + 1)); rw [tot_take hi]; unfold vsz; have := hm2 h; first | (have e := h40; rw [List.take_of_length_le (by omega)] at this; omega) | (have e := h43; omega), hm3⟩, by show l.length - (i + 1) < l.length - i; omega, lep_of hF [] rfl (rfl) ⟨rfl, rfl, rfl, trivial⟩⟩
    · refine a_exit ?_
      refine a_seq ?_
      refine a_region ?_
      refine Pstep.go (st_move rfl rfl) ?_
      refine Pstep.go (st_leq rfl rfl rfl) ?_
      refine Pstep.go (st_assign rfl rfl) ?_
      refine o_nil ?_
      refine a_ret ?_
      have hfin : decide ((n : Int) ≤ 4000) = decide (tot l ≤ 4000) := by
        rw [decide_eq_decide]
        have h5 := tot_le l i
        first | (have h := h10; have e : l.take i = l := List.take_of_length_le (by omega); rw [e] at hn1 hn2; constructor <;> intro h2 <;> omega) | (have h := h13; constructor <;> intro h2 <;> omega)
      exact ⟨_, [], [], res_of rfl, rfl, rfl, by rw [← hfin], rfl⟩
  · refine o_pass rfl rfl rfl rfl ?_
    refine o_pass rfl rfl rfl rfl ?_
    refine Pstep.go (st_pickF rfl rfl rfl rfl) ?_
    refine o_nil ?_
    refine a_false rfl rfl ?_
    refine a_exit ?_
    refine a_seq ?_
    refine a_region ?_
    refine Pstep.go (st_move rfl rfl) ?_
    refine Pstep.go (st_leq rfl rfl rfl) ?_
    refine Pstep.go (st_assign rfl rfl) ?_
    refine o_nil ?_
    refine a_ret ?_
    have hfin : decide ((n : Int) ≤ 4000) = decide (tot l ≤ 4000) := by
      rw [decide_eq_decide]
      have h5 := tot_le l i
      first | (have h := h10; have e : l.take i = l := List.take_of_length_le (by omega); rw [e] at hn1 hn2; constructor <;> intro h2 <;> omega) | (have h := h13; constructor <;> intro h2 <;> omega)
    exact ⟨_, [], [], res_of rfl, rfl, rfl, by rw [← hfin], rfl⟩
end Go.Proofs.Ytjbghmlofjkcfaa
