/- The walks of the reference's readers. -/
import Derived.Test.YtjbghmlofjkcfaaLawC5
namespace Go.Proofs.Ytjbghmlofjkcfaa
open Go.RowKit

theorem mulU (a b : Nat) (h : a * b < 18446744073709551616) : IntKind.u64.wrap ((a : Int) * (b : Int)) = ((a * b : Nat) : Int) := by
  rw [← Int.natCast_mul, wrap64n _ h]
theorem addU (a b : Nat) (h : a + b < 18446744073709551616) : IntKind.u64.wrap ((a : Int) + (b : Int)) = ((a + b : Nat) : Int) := by
  rw [← Int.natCast_add, wrap64n _ h]
set_option maxHeartbeats 1000000 in
theorem readUint_p (b : List UInt8) (hb : b.length ≤ 140737488355328) : PCalls Try.prog 52 [.d (bytesD b)] (dec3 (rdU 0 0 b)) := by
  refine a_enter Try.func52 rfl rfl Try.ntmps52 rfl rfl rfl fun F hF => ?_
  refine a_seq ?_
  refine a_region ?_
  refine Pstep.go (st_assign rfl rfl) ?_
  refine Pstep.go (st_assign rfl rfl) ?_
  refine Pstep.go (st_assign rfl rfl) ?_
  refine o_nil ?_
  refine a_seq ?_
  refine a_region ?_
  refine Pstep.go (st_assign rfl rfl) ?_
  refine Pstep.go (st_assign rfl rfl) ?_
  refine o_nil ?_
  refine a_seq ?_
  refine a_region ?_
  refine Pstep.go (st_assign rfl rfl) ?_
  refine o_nil ?_
  refine a_seq ?_
  refine a_seq ?_
  refine a_region ?_
  refine Pstep.go (st_assign rfl rfl) ?_
  refine o_nil ?_
  refine a_block ?_
  refine a_loopP (α := Nat × Nat) (fun p => ⟨54, [(0, .d (bytesD b)), (5, (.d (.raw (.int .u64 (p.2 : Int))))), (6, (.d (.raw (.int .u64 ((128 ^ p.1 : Nat) : Int))))), (7, (.d (.raw (.int .i64 (p.1 : Int)))))], []⟩) (fun p => p.1 ≤ b.length ∧ p.1 ≤ 9 ∧ p.2 < 128 ^ p.1 ∧ rdU p.1 p.2 (b.drop p.1) = rdU 0 0 b) (fun p => b.length - p.1) ((0, 0)) (⟨Nat.zero_le _, by show 0 ≤ 9; omega, by show 0 < 128 ^ 0; decide, rfl⟩) (lep_of hF [] rfl rfl ⟨rfl, rfl, rfl, rfl, trivial⟩) ?_
  rintro ⟨k, x⟩ ⟨hk0, hk9, hx, hr⟩
  dsimp only at hk0 hk9 hx hr ⊢
  refine a_seq ?_
  refine a_seq ?_
  refine a_region ?_
  refine Pstep.go (st_move rfl rfl) ?_
  first | refine Pstep.go (st_lss rfl rfl rfl) ?_ | refine Pstep.go (st_lssS rfl rfl rfl) ?_
  refine o_nil ?_
  refine a_true rfl (decide_eq_true (by omega)) ?_
  refine a_skip ?_
  refine a_seq ?_
  refine a_block ?_
  refine a_seq ?_
  refine a_seq ?_
  refine a_region ?_
  refine Pstep.go (st_move rfl rfl) ?_
  refine Pstep.go (st_move rfl rfl) ?_
  first | refine Pstep.go (st_lenMap rfl Try.underlying27 rfl) ?_ | refine Pstep.go (st_lenD rfl rfl Try.underlying27 rfl) ?_ | refine Pstep.go (st_lenO rfl Try.underlying27 rfl) ?_ | refine Pstep.go (st_lenSL rfl Try.underlying27 rfl) ?_ | refine Pstep.go (st_lenS rfl Try.underlying27 rfl) ?_
  refine Pstep.go (st_geq rfl rfl rfl) ?_
  refine o_nil ?_
  first | refine a_if rfl (fun h15 => ?_) (fun h15 => ?_) | refine a_cond rfl (fun h15 => ?_) (fun h15 => ?_)
  · refine a_seq ?_
    refine a_region ?_
    refine Pstep.go (st_assign rfl rfl) ?_
    refine Pstep.go (st_assign rfl rfl) ?_
    refine Pstep.go (st_assign rfl rfl) ?_
    refine o_nil ?_
    refine a_ret ?_
    exact ⟨_, [], [], res_of rfl, rfl, rfl, by rw [← hr, List.drop_eq_nil_of_le (by have h := h15; omega)]; rfl, rfl⟩
  · refine a_skip ?_
    refine a_seq ?_
    refine a_seq ?_
    have hk : k < b.length := by have h := h15; omega
    obtain ⟨c, hc⟩ : ∃ c, c = b[k] := ⟨_, rfl⟩
    refine a_region ?_
    refine Pstep.go (st_move rfl rfl) ?_
    first | refine Pstep.go (st_eql rfl rfl rfl) ?_ | refine Pstep.go (st_eqlSL rfl rfl rfl) ?_ | refine Pstep.go (st_eqlS rfl rfl rfl) ?_ | refine Pstep.go (st_eqlB Try.underlying3 rfl rfl rfl) ?_ | refine Pstep.go (st_eqlP Try.underlying3 rfl rfl rfl) ?_ | refine Pstep.go (st_eqlN Try.underlying3 rfl rfl) ?_ | refine Pstep.go (st_eqlF Try.underlying3 rfl rfl rfl) ?_ | refine Pstep.go (st_eqlFN Try.underlying3 rfl rfl) ?_
    refine Pstep.go (st_move rfl rfl) ?_
    first | refine o_splitP 18 rfl (fun h18 => ?_) (fun h18 => ?_) | refine o_splitB 18 rfl (fun h18 => ?_) (fun h18 => ?_)
    · refine o_run rfl rfl rfl ?_
      refine Pstep.go (st_move rfl rfl) ?_
      refine o_run rfl rfl rfl ?_
      refine Pstep.go (st_move rfl rfl) ?_
      refine o_run rfl rfl rfl ?_
      first | refine Pstep.go (st_indexD (k) rfl rfl (rfl) (getm hk) Try.underlying27 rfl sz5 rfl) ?_ | refine Pstep.go (st_indexO (k) rfl rfl (rfl) (getm hk) rfl Try.underlying27 sz5 rfl) ?_
      refine o_run rfl rfl rfl ?_
      first | refine Pstep.go (st_loadD1 rfl rfl on5 rfl) ?_ | refine Pstep.go (st_loadP rfl rfl rfl on5 rfl) ?_ | refine Pstep.go (st_loadR rfl rfl (rfl) rfl on5 rfl) ?_
      refine o_weakD 22 (.raw (.int .u8 (c.toNat : Int))) rfl (fun _ _ _ h => by rw [hc]; exact h) ?_
      refine o_run rfl rfl rfl ?_
      first | refine Pstep.go (st_gtr rfl rfl rfl) ?_ | refine Pstep.go (st_gtrS rfl rfl rfl) ?_
      refine Pstep.go (st_pickT rfl rfl rfl rfl) ?_
      refine o_nil ?_
      first | refine a_if rfl (fun h24 => ?_) (fun h24 => ?_) | refine a_cond rfl (fun h24 => ?_) (fun h24 => ?_)
      · have e9 : k = 9 ∧ 1 < c.toNat := by have h1 := h18; have h2 := h24; omega
        refine a_seq ?_
        refine a_region ?_
        refine Pstep.go (st_assign rfl rfl) ?_
        refine Pstep.go (st_assign rfl rfl) ?_
        refine Pstep.go (st_assign rfl rfl) ?_
        refine o_nil ?_
        refine a_ret ?_
        exact ⟨_, [], [], res_of rfl, rfl, rfl, by rw [← hr, dropc hk]; simp only [rdU]; rw [← hc, if_pos e9]; rfl, rfl⟩
      · refine a_skip ?_
        refine a_seq ?_
        have g9 : ¬ (k = 9 ∧ 1 < c.toNat) := by first | (have h2 := h24; omega) | (have h1 := h18; omega)
        have s1 := (stepB hk9 hx g9).1
        have s2 := (stepB hk9 hx g9).2.1
        have s3 := (stepB hk9 hx g9).2.2
        refine a_region ?_
        refine Pstep.go (st_move rfl rfl) ?_
        refine Pstep.go (st_move rfl rfl) ?_
        refine Pstep.go (st_move rfl rfl) ?_
        first | refine Pstep.go (st_indexD (k) rfl rfl (rfl) (getm hk) Try.underlying27 rfl sz5 rfl) ?_ | refine Pstep.go (st_indexO (k) rfl rfl (rfl) (getm hk) rfl Try.underlying27 sz5 rfl) ?_
        first | refine Pstep.go (st_loadD1 rfl rfl on5 rfl) ?_ | refine Pstep.go (st_loadP rfl rfl rfl on5 rfl) ?_ | refine Pstep.go (st_loadR rfl rfl (rfl) rfl on5 rfl) ?_
        refine o_weakD 29 (.raw (.int .u8 (c.toNat : Int))) rfl (fun _ _ _ h => by rw [hc]; exact h) ?_
        refine Pstep.go (st_rem rfl rfl (by omega) (show ((c.toNat : Nat) : Int).tmod 128 = ((c.toNat % 128 : Nat) : Int) from rfl) rfl) ?_
        refine Pstep.go (st_conv rfl Try.underlying5 Try.underlying29 (wrap64n _ (by omega)) rfl) ?_
        refine Pstep.go (st_move rfl rfl) ?_
        refine Pstep.go (st_mul rfl rfl (mulU _ _ s1) rfl) ?_
        refine Pstep.go (st_add rfl rfl (addU _ _ s2) rfl) ?_
        refine Pstep.go (st_assign rfl rfl) ?_
        refine o_nil ?_
        refine a_seq ?_
        refine a_region ?_
        refine Pstep.go (st_move rfl rfl) ?_
        refine Pstep.go (st_mul rfl rfl (rfl) rfl) ?_
        refine Pstep.go (st_assign rfl rfl) ?_
        refine o_nil ?_
        refine a_seq ?_
        refine a_region ?_
        refine Pstep.go (st_move rfl rfl) ?_
        refine Pstep.go (st_move rfl rfl) ?_
        first | refine Pstep.go (st_indexD (k) rfl rfl (rfl) (getm hk) Try.underlying27 rfl sz5 rfl) ?_ | refine Pstep.go (st_indexO (k) rfl rfl (rfl) (getm hk) rfl Try.underlying27 sz5 rfl) ?_
        first | refine Pstep.go (st_loadD1 rfl rfl on5 rfl) ?_ | refine Pstep.go (st_loadP rfl rfl rfl on5 rfl) ?_ | refine Pstep.go (st_loadR rfl rfl (rfl) rfl on5 rfl) ?_
        refine o_weakD 40 (.raw (.int .u8 (c.toNat : Int))) rfl (fun _ _ _ h => by rw [hc]; exact h) ?_
        first | refine Pstep.go (st_lss rfl rfl rfl) ?_ | refine Pstep.go (st_lssS rfl rfl rfl) ?_
        refine o_nil ?_
        first | refine a_if rfl (fun h41 => ?_) (fun h41 => ?_) | refine a_cond rfl (fun h41 => ?_) (fun h41 => ?_)
        · have g128 : ¬ 128 ≤ c.toNat := by have h := h41; omega
          refine a_seq ?_
          refine a_seq ?_
          refine a_region ?_
          refine Pstep.go (st_move rfl rfl) ?_
          refine Pstep.go (st_move rfl rfl) ?_
          first | refine Pstep.go (st_indexD (k) rfl rfl (rfl) (getm hk) Try.underlying27 rfl sz5 rfl) ?_ | refine Pstep.go (st_indexO (k) rfl rfl (rfl) (getm hk) rfl Try.underlying27 sz5 rfl) ?_
          first | refine Pstep.go (st_loadD1 rfl rfl on5 rfl) ?_ | refine Pstep.go (st_loadP rfl rfl rfl on5 rfl) ?_ | refine Pstep.go (st_loadR rfl rfl (rfl) rfl on5 rfl) ?_
          refine o_weakD 45 (.raw (.int .u8 (c.toNat : Int))) rfl (fun _ _ _ h => by rw [hc]; exact h) ?_
          first | refine Pstep.go (st_eql rfl rfl rfl) ?_ | refine Pstep.go (st_eqlSL rfl rfl rfl) ?_ | refine Pstep.go (st_eqlS rfl rfl rfl) ?_ | refine Pstep.go (st_eqlB Try.underlying5 rfl rfl rfl) ?_ | refine Pstep.go (st_eqlP Try.underlying5 rfl rfl rfl) ?_ | refine Pstep.go (st_eqlN Try.underlying5 rfl rfl) ?_ | refine Pstep.go (st_eqlF Try.underlying5 rfl rfl rfl) ?_ | refine Pstep.go (st_eqlFN Try.underlying5 rfl rfl) ?_
          refine Pstep.go (st_move rfl rfl) ?_
          first | refine o_splitP 47 rfl (fun h47 => ?_) (fun h47 => ?_) | refine o_splitB 47 rfl (fun h47 => ?_) (fun h47 => ?_)
          · refine o_run rfl rfl rfl ?_
            refine Pstep.go (st_move rfl rfl) ?_
            refine o_run rfl rfl rfl ?_
            first | refine Pstep.go (st_gtr rfl rfl rfl) ?_ | refine Pstep.go (st_gtrS rfl rfl rfl) ?_
            refine Pstep.go (st_pickT rfl rfl rfl rfl) ?_
            refine o_nil ?_
            first | refine a_if rfl (fun h50 => ?_) (fun h50 => ?_) | refine a_cond rfl (fun h50 => ?_) (fun h50 => ?_)
            · refine a_seq ?_
              refine a_region ?_
              refine Pstep.go (st_assign rfl rfl) ?_
              refine Pstep.go (st_assign rfl rfl) ?_
              refine Pstep.go (st_assign rfl rfl) ?_
              refine o_nil ?_
              refine a_ret ?_
              have e0 : c.toNat = 0 ∧ 0 < k := by have h1 := h47; have h2 := h50; omega
              exact ⟨_, [], [], res_of rfl, rfl, rfl, by rw [← hr, dropc hk]; simp only [rdU]; rw [← hc, if_neg g9, if_neg g128, if_pos e0]; rfl, rfl⟩
            · refine a_skip ?_
              refine a_seq ?_
              refine a_region ?_
              refine Pstep.go (st_move rfl rfl) ?_
              refine Pstep.go (st_move rfl rfl) ?_
              refine Pstep.go (st_add rfl rfl (IntWalk.i64_in _ (by omega)) rfl) ?_
              refine Pstep.go (st_assign rfl rfl) ?_
              refine Pstep.go (st_assign rfl rfl) ?_
              refine Pstep.go (st_assign rfl rfl) ?_
              refine o_nil ?_
              refine a_ret ?_
              have e0 : ¬ (c.toNat = 0 ∧ 0 < k) := by first | (have h2 := h50; omega) | (have h1 := h47; omega)
              exact ⟨_, [], [], res_of rfl, rfl, rfl, by rw [← hr, dropc hk]; simp only [rdU]; rw [← hc, if_neg g9, if_neg g128, if_neg e0]; rfl, rfl⟩
          · refine o_pass rfl rfl rfl rfl ?_
            refine o_pass rfl rfl rfl rfl ?_
            refine Pstep.go (st_pickF rfl rfl rfl rfl) ?_
            refine o_nil ?_
            refine a_false rfl rfl ?_
            refine a_skip ?_
            refine a_seq ?_
            refine a_region ?_
            refine Pstep.go (st_move rfl rfl) ?_
            refine Pstep.go (st_move rfl rfl) ?_
            refine Pstep.go (st_add rfl rfl (IntWalk.i64_in _ (by omega)) rfl) ?_
            refine Pstep.go (st_assign rfl rfl) ?_
            refine Pstep.go (st_assign rfl rfl) ?_
            refine Pstep.go (st_assign rfl rfl) ?_
            refine o_nil ?_
            refine a_ret ?_
            have e0 : ¬ (c.toNat = 0 ∧ 0 < k) := by first | (have h2 := h50; omega) | (have h1 := h47; omega)
            exact ⟨_, [], [], res_of rfl, rfl, rfl, by rw [← hr, dropc hk]; simp only [rdU]; rw [← hc, if_neg g9, if_neg g128, if_neg e0]; rfl, rfl⟩
        · have g128 : 128 ≤ c.toNat := by have h := h41; omega
          refine a_skip ?_
          refine a_weakD 6 (.raw (.int .u64 ((128 ^ (k + 1) : Nat) : Int))) rfl (fun _ _ _ h => by rw [Nat.pow_succ, ← mulU _ 128 (by have := pow8 k (s3 g128).1; omega)]; exact h) ?_
          refine a_region ?_
          refine Pstep.go (st_move rfl rfl) ?_
          refine Pstep.go (st_add rfl rfl (IntWalk.i64_in _ (by omega)) rfl) ?_
          refine Pstep.go (st_assign rfl rfl) ?_
          refine o_nil ?_
          exact ⟨(k + 1, x + c.toNat % 128 * 128 ^ k), ⟨by show k + 1 ≤ _; omega, by show k + 1 ≤ 9; have := (s3 g128).1; omega, (s3 g128).2, by rw [← hr, dropc hk]; simp only [rdU]; rw [← hc, if_neg g9, if_pos g128]⟩, by show b.length - (k + 1) < b.length - k; omega, lep_of hF [] rfl (rfl) ⟨rfl, rfl, rfl, rfl, trivial⟩⟩
    · refine o_pass rfl rfl rfl rfl ?_
      refine o_pass rfl rfl rfl rfl ?_
      refine o_pass rfl rfl rfl rfl ?_
      refine o_pass rfl rfl rfl rfl ?_
      refine o_pass rfl rfl rfl rfl ?_
      refine Pstep.go (st_pickF rfl rfl rfl rfl) ?_
      refine o_nil ?_
      refine a_false rfl rfl ?_
      refine a_skip ?_
      refine a_seq ?_
      have g9 : ¬ (k = 9 ∧ 1 < c.toNat) := by first | (have h2 := h24; omega) | (have h1 := h18; omega)
      have s1 := (stepB hk9 hx g9).1
      have s2 := (stepB hk9 hx g9).2.1
      have s3 := (stepB hk9 hx g9).2.2
      refine a_region ?_
      refine Pstep.go (st_move rfl rfl) ?_
      refine Pstep.go (st_move rfl rfl) ?_
      refine Pstep.go (st_move rfl rfl) ?_
      first | refine Pstep.go (st_indexD (k) rfl rfl (rfl) (getm hk) Try.underlying27 rfl sz5 rfl) ?_ | refine Pstep.go (st_indexO (k) rfl rfl (rfl) (getm hk) rfl Try.underlying27 sz5 rfl) ?_
      first | refine Pstep.go (st_loadD1 rfl rfl on5 rfl) ?_ | refine Pstep.go (st_loadP rfl rfl rfl on5 rfl) ?_ | refine Pstep.go (st_loadR rfl rfl (rfl) rfl on5 rfl) ?_
      refine o_weakD 29 (.raw (.int .u8 (c.toNat : Int))) rfl (fun _ _ _ h => by rw [hc]; exact h) ?_
      refine Pstep.go (st_rem rfl rfl (by omega) (show ((c.toNat : Nat) : Int).tmod 128 = ((c.toNat % 128 : Nat) : Int) from rfl) rfl) ?_
      refine Pstep.go (st_conv rfl Try.underlying5 Try.underlying29 (wrap64n _ (by omega)) rfl) ?_
      refine Pstep.go (st_move rfl rfl) ?_
      refine Pstep.go (st_mul rfl rfl (mulU _ _ s1) rfl) ?_
      refine Pstep.go (st_add rfl rfl (addU _ _ s2) rfl) ?_
      refine Pstep.go (st_assign rfl rfl) ?_
      refine o_nil ?_
      refine a_seq ?_
      refine a_region ?_
      refine Pstep.go (st_move rfl rfl) ?_
      refine Pstep.go (st_mul rfl rfl (rfl) rfl) ?_
      refine Pstep.go (st_assign rfl rfl) ?_
      refine o_nil ?_
      refine a_seq ?_
      refine a_region ?_
      refine Pstep.go (st_move rfl rfl) ?_
      refine Pstep.go (st_move rfl rfl) ?_
      first | refine Pstep.go (st_indexD (k) rfl rfl (rfl) (getm hk) Try.underlying27 rfl sz5 rfl) ?_ | refine Pstep.go (st_indexO (k) rfl rfl (rfl) (getm hk) rfl Try.underlying27 sz5 rfl) ?_
      first | refine Pstep.go (st_loadD1 rfl rfl on5 rfl) ?_ | refine Pstep.go (st_loadP rfl rfl rfl on5 rfl) ?_ | refine Pstep.go (st_loadR rfl rfl (rfl) rfl on5 rfl) ?_
      refine o_weakD 40 (.raw (.int .u8 (c.toNat : Int))) rfl (fun _ _ _ h => by rw [hc]; exact h) ?_
      first | refine Pstep.go (st_lss rfl rfl rfl) ?_ | refine Pstep.go (st_lssS rfl rfl rfl) ?_
      refine o_nil ?_
      first | refine a_if rfl (fun h41 => ?_) (fun h41 => ?_) | refine a_cond rfl (fun h41 => ?_) (fun h41 => ?_)
      · have g128 : ¬ 128 ≤ c.toNat := by have h := h41; omega
        refine a_seq ?_
        refine a_seq ?_
        refine a_region ?_
        refine Pstep.go (st_move rfl rfl) ?_
        refine Pstep.go (st_move rfl rfl) ?_
        first | refine Pstep.go (st_indexD (k) rfl rfl (rfl) (getm hk) Try.underlying27 rfl sz5 rfl) ?_ | refine Pstep.go (st_indexO (k) rfl rfl (rfl) (getm hk) rfl Try.underlying27 sz5 rfl) ?_
        first | refine Pstep.go (st_loadD1 rfl rfl on5 rfl) ?_ | refine Pstep.go (st_loadP rfl rfl rfl on5 rfl) ?_ | refine Pstep.go (st_loadR rfl rfl (rfl) rfl on5 rfl) ?_
        refine o_weakD 45 (.raw (.int .u8 (c.toNat : Int))) rfl (fun _ _ _ h => by rw [hc]; exact h) ?_
        first | refine Pstep.go (st_eql rfl rfl rfl) ?_ | refine Pstep.go (st_eqlSL rfl rfl rfl) ?_ | refine Pstep.go (st_eqlS rfl rfl rfl) ?_ | refine Pstep.go (st_eqlB Try.underlying5 rfl rfl rfl) ?_ | refine Pstep.go (st_eqlP Try.underlying5 rfl rfl rfl) ?_ | refine Pstep.go (st_eqlN Try.underlying5 rfl rfl) ?_ | refine Pstep.go (st_eqlF Try.underlying5 rfl rfl rfl) ?_ | refine Pstep.go (st_eqlFN Try.underlying5 rfl rfl) ?_
        refine Pstep.go (st_move rfl rfl) ?_
        first | refine o_splitP 47 rfl (fun h47 => ?_) (fun h47 => ?_) | refine o_splitB 47 rfl (fun h47 => ?_) (fun h47 => ?_)
        · refine o_run rfl rfl rfl ?_
          refine Pstep.go (st_move rfl rfl) ?_
          refine o_run rfl rfl rfl ?_
          first | refine Pstep.go (st_gtr rfl rfl rfl) ?_ | refine Pstep.go (st_gtrS rfl rfl rfl) ?_
          refine Pstep.go (st_pickT rfl rfl rfl rfl) ?_
          refine o_nil ?_
          first | refine a_if rfl (fun h50 => ?_) (fun h50 => ?_) | refine a_cond rfl (fun h50 => ?_) (fun h50 => ?_)
          · refine a_seq ?_
            refine a_region ?_
            refine Pstep.go (st_assign rfl rfl) ?_
            refine Pstep.go (st_assign rfl rfl) ?_
            refine Pstep.go (st_assign rfl rfl) ?_
            refine o_nil ?_
            refine a_ret ?_
            have e0 : c.toNat = 0 ∧ 0 < k := by have h1 := h47; have h2 := h50; omega
            exact ⟨_, [], [], res_of rfl, rfl, rfl, by rw [← hr, dropc hk]; simp only [rdU]; rw [← hc, if_neg g9, if_neg g128, if_pos e0]; rfl, rfl⟩
          · refine a_skip ?_
            refine a_seq ?_
            refine a_region ?_
            refine Pstep.go (st_move rfl rfl) ?_
            refine Pstep.go (st_move rfl rfl) ?_
            refine Pstep.go (st_add rfl rfl (IntWalk.i64_in _ (by omega)) rfl) ?_
            refine Pstep.go (st_assign rfl rfl) ?_
            refine Pstep.go (st_assign rfl rfl) ?_
            refine Pstep.go (st_assign rfl rfl) ?_
            refine o_nil ?_
            refine a_ret ?_
            have e0 : ¬ (c.toNat = 0 ∧ 0 < k) := by first | (have h2 := h50; omega) | (have h1 := h47; omega)
            exact ⟨_, [], [], res_of rfl, rfl, rfl, by rw [← hr, dropc hk]; simp only [rdU]; rw [← hc, if_neg g9, if_neg g128, if_neg e0]; rfl, rfl⟩
        · refine o_pass rfl rfl rfl rfl ?_
          refine o_pass rfl rfl rfl rfl ?_
          refine Pstep.go (st_pickF rfl rfl rfl rfl) ?_
          refine o_nil ?_
          refine a_false rfl rfl ?_
          refine a_skip ?_
          refine a_seq ?_
          refine a_region ?_
          refine Pstep.go (st_move rfl rfl) ?_
          refine Pstep.go (st_move rfl rfl) ?_
          refine Pstep.go (st_add rfl rfl (IntWalk.i64_in _ (by omega)) rfl) ?_
          refine Pstep.go (st_assign rfl rfl) ?_
          refine Pstep.go (st_assign rfl rfl) ?_
          refine Pstep.go (st_assign rfl rfl) ?_
          refine o_nil ?_
          refine a_ret ?_
          have e0 : ¬ (c.toNat = 0 ∧ 0 < k) := by first | (have h2 := h50; omega) | (have h1 := h47; omega)
          exact ⟨_, [], [], res_of rfl, rfl, rfl, by rw [← hr, dropc hk]; simp only [rdU]; rw [← hc, if_neg g9, if_neg g128, if_neg e0]; rfl, rfl⟩
      · have g128 : 128 ≤ c.toNat := by have h := h41; omega
        refine a_skip ?_
        refine a_weakD 6 (.raw (.int .u64 ((128 ^ (k + 1) : Nat) : Int))) rfl (fun _ _ _ h => by rw [Nat.pow_succ, ← mulU _ 128 (by have := pow8 k (s3 g128).1; omega)]; exact h) ?_
        refine a_region ?_
        refine Pstep.go (st_move rfl rfl) ?_
        refine Pstep.go (st_add rfl rfl (IntWalk.i64_in _ (by omega)) rfl) ?_
        refine Pstep.go (st_assign rfl rfl) ?_
        refine o_nil ?_
        exact ⟨(k + 1, x + c.toNat % 128 * 128 ^ k), ⟨by show k + 1 ≤ _; omega, by show k + 1 ≤ 9; have := (s3 g128).1; omega, (s3 g128).2, by rw [← hr, dropc hk]; simp only [rdU]; rw [← hc, if_neg g9, if_pos g128]⟩, by show b.length - (k + 1) < b.length - k; omega, lep_of hF [] rfl (rfl) ⟨rfl, rfl, rfl, rfl, trivial⟩⟩
theorem readString_p (b : List UInt8) (hb : b.length ≤ 1000000000000) : PCalls Try.prog 53 [.d (bytesD b)] (.tup [strD (decS b).1, .raw (.int .i64 ((decS b).2.1 : Int)), .raw (.int .i64 ((decS b).2.2 : Int))]) := by
  have hf := rdU_fits b
  have hlt := rd_lt b
  refine a_enter Try.func53 rfl rfl Try.ntmps53 rfl rfl rfl fun F hF => ?_
  refine a_seq ?_
  refine a_region ?_
  refine Pstep.go (st_assign rfl rfl) ?_
  refine Pstep.go (st_assign rfl rfl) ?_
  refine Pstep.go (st_assign rfl rfl) ?_
  refine o_nil ?_
  refine a_seq ?_
  refine a_region ?_
  refine Pstep.go (st_move rfl rfl) ?_
  refine Pstep.go (st_callP (readUint_p b (by omega)) rfl rfl) ?_
  refine Pstep.go (st_move rfl rfl) ?_
  first | refine Pstep.go (st_extractD rfl rfl rfl) ?_ | refine Pstep.go (st_extract rfl rfl rfl) ?_
  first | refine Pstep.go (st_extractD rfl rfl rfl) ?_ | refine Pstep.go (st_extract rfl rfl rfl) ?_
  first | refine Pstep.go (st_extractD rfl rfl rfl) ?_ | refine Pstep.go (st_extract rfl rfl rfl) ?_
  refine Pstep.go (st_assign rfl rfl) ?_
  refine Pstep.go (st_assign rfl rfl) ?_
  refine Pstep.go (st_assign rfl rfl) ?_
  refine o_nil ?_
  refine a_seq ?_
  refine a_seq ?_
  refine a_region ?_
  refine Pstep.go (st_move rfl rfl) ?_
  first | refine Pstep.go (st_neq rfl rfl rfl) ?_ | refine Pstep.go (st_neqSL rfl rfl rfl) ?_ | refine Pstep.go (st_neqS rfl rfl rfl) ?_ | refine Pstep.go (st_neqB Try.underlying3 rfl rfl rfl) ?_ | refine Pstep.go (st_neqP Try.underlying3 rfl rfl rfl) ?_ | refine Pstep.go (st_neqN Try.underlying3 rfl rfl) ?_ | refine Pstep.go (st_neqF Try.underlying3 rfl rfl rfl) ?_ | refine Pstep.go (st_neqFN Try.underlying3 rfl rfl) ?_
  refine o_nil ?_
  first | refine a_if rfl (fun h15 => ?_) (fun h15 => ?_) | refine a_cond rfl (fun h15 => ?_) (fun h15 => ?_)
  · refine a_seq ?_
    refine a_region ?_
    refine Pstep.go (st_move rfl rfl) ?_
    refine Pstep.go (st_assign rfl rfl) ?_
    refine Pstep.go (st_assign rfl rfl) ?_
    refine Pstep.go (st_assign rfl rfl) ?_
    refine o_nil ?_
    refine a_ret ?_
    have e0 : ¬ (rdU 0 0 b).2.2 = 0 := by have h := h15; omega
    exact ⟨_, [], [], res_of rfl, rfl, rfl, by unfold decS; rw [if_neg e0] <;> rfl, rfl⟩
  · have e0 : (rdU 0 0 b).2.2 = 0 := by have h := h15; omega
    refine a_skip ?_
    refine a_seq ?_
    refine a_seq ?_
    refine a_region ?_
    refine Pstep.go (st_move rfl rfl) ?_
    first | refine Pstep.go (st_gtr rfl rfl rfl) ?_ | refine Pstep.go (st_gtrS rfl rfl rfl) ?_
    refine o_nil ?_
    first | refine a_if rfl (fun h18 => ?_) (fun h18 => ?_) | refine a_cond rfl (fun h18 => ?_) (fun h18 => ?_)
    · refine a_seq ?_
      refine a_region ?_
      refine Pstep.go (st_assign rfl rfl) ?_
      refine Pstep.go (st_assign rfl rfl) ?_
      refine Pstep.go (st_assign rfl rfl) ?_
      refine o_nil ?_
      refine a_ret ?_
      have e1 : 1048576 < (rdU 0 0 b).1 := by have h := h18; omega
      exact ⟨_, [], [], res_of rfl, rfl, rfl, by unfold decS; rw [if_pos e0, if_pos e1] <;> rfl, rfl⟩
    · have e1 : ¬ 1048576 < (rdU 0 0 b).1 := by have h := h18; omega
      refine a_skip ?_
      refine a_seq ?_
      refine a_seq ?_
      refine a_region ?_
      refine Pstep.go (st_move rfl rfl) ?_
      first | refine Pstep.go (st_lenMap rfl Try.underlying27 rfl) ?_ | refine Pstep.go (st_lenD rfl rfl Try.underlying27 rfl) ?_ | refine Pstep.go (st_lenO rfl Try.underlying27 rfl) ?_ | refine Pstep.go (st_lenSL rfl Try.underlying27 rfl) ?_ | refine Pstep.go (st_lenS rfl Try.underlying27 rfl) ?_
      refine Pstep.go (st_move rfl rfl) ?_
      refine Pstep.go (st_sub rfl rfl (IntWalk.i64_in _ (by omega)) rfl) ?_
      refine Pstep.go (st_conv rfl Try.underlying3 Try.underlying29 (wrapSub hf (by omega)) rfl) ?_
      refine Pstep.go (st_move rfl rfl) ?_
      first | refine Pstep.go (st_lss rfl rfl rfl) ?_ | refine Pstep.go (st_lssS rfl rfl rfl) ?_
      refine o_nil ?_
      first | refine a_if rfl (fun h25 => ?_) (fun h25 => ?_) | refine a_cond rfl (fun h25 => ?_) (fun h25 => ?_)
      · refine a_seq ?_
        refine a_region ?_
        refine Pstep.go (st_assign rfl rfl) ?_
        refine Pstep.go (st_assign rfl rfl) ?_
        refine Pstep.go (st_assign rfl rfl) ?_
        refine o_nil ?_
        refine a_ret ?_
        have e2 : b.length - (rdU 0 0 b).2.1 < (rdU 0 0 b).1 := by have h := h25; omega
        exact ⟨_, [], [], res_of rfl, rfl, rfl, by unfold decS; rw [if_pos e0, if_neg e1, if_pos e2] <;> rfl, rfl⟩
      · have e2 : ¬ b.length - (rdU 0 0 b).2.1 < (rdU 0 0 b).1 := by have h := h25; omega
        refine a_skip ?_
        refine a_seq ?_
        refine a_region ?_
        refine Pstep.go (st_move rfl rfl) ?_
        refine Pstep.go (st_move rfl rfl) ?_
        refine Pstep.go (st_move rfl rfl) ?_
        refine Pstep.go (st_move rfl rfl) ?_
        refine Pstep.go (st_conv rfl Try.underlying29 Try.underlying3 (wrapS _ (by omega)) rfl) ?_
        refine Pstep.go (st_add rfl rfl (IntWalk.i64_in _ (by omega)) rfl) ?_
        refine Pstep.go (st_slice3M (b) ((rdU 0 0 b).2.1) ((rdU 0 0 b).2.1 + (rdU 0 0 b).1) rfl rfl rfl rfl (rfl) (by omega) (by omega) (by omega) Try.underlying27 sz5 (fun _ => rfl) rfl) ?_
        refine Pstep.go (st_convBS ((b.drop (rdU 0 0 b).2.1).take ((rdU 0 0 b).2.1 + (rdU 0 0 b).1 - (rdU 0 0 b).2.1)) rfl rfl Try.underlying27 Try.underlying5 Try.underlying9 rfl) ?_
        refine Pstep.go (st_move rfl rfl) ?_
        refine Pstep.go (st_move rfl rfl) ?_
        refine Pstep.go (st_conv rfl Try.underlying29 Try.underlying3 (wrapS _ (by omega)) rfl) ?_
        refine Pstep.go (st_add rfl rfl (IntWalk.i64_in _ (by omega)) rfl) ?_
        refine Pstep.go (st_assign rfl rfl) ?_
        refine Pstep.go (st_assign rfl rfl) ?_
        refine Pstep.go (st_assign rfl rfl) ?_
        refine o_nil ?_
        refine a_ret ?_
        exact ⟨_, [], [], res_of rfl, rfl, rfl, by unfold decS; rw [if_pos e0, if_neg e1, if_neg e2, Nat.add_sub_cancel_left] <;> rfl, rfl⟩
/-- How far the strings have been read. -/
def LSt (t0 : List UInt8) (n i a : Nat) (acc : List (List UInt8)) : Prop := a ≤ t0.length ∧ decL n t0 = if (decL (n - i) (t0.drop a)).2.2 = 0 then (acc ++ (decL (n - i) (t0.drop a)).1, a + (decL (n - i) (t0.drop a)).2.1, 0) else ([], a + (decL (n - i) (t0.drop a)).2.1, (decL (n - i) (t0.drop a)).2.2)
theorem LSt.start (t0 : List UInt8) (n : Nat) : LSt t0 n 0 0 [] := by
  refine ⟨Nat.zero_le _, ?_⟩
  rw [List.drop_zero, Nat.sub_zero, List.nil_append, Nat.zero_add]
  split
  · rename_i h; exact Prod.ext rfl (Prod.ext rfl h)
  · rename_i h; exact Prod.ext (decL_err _ _ h) rfl
theorem LSt.step {t0 : List UInt8} {n i a : Nat} {acc : List (List UInt8)} (h : LSt t0 n i a acc) (hi : i < n) (hd : (decS (t0.drop a)).2.2 = 0) : LSt t0 n (i + 1) (a + (decS (t0.drop a)).2.1) (acc ++ [(decS (t0.drop a)).1]) := by
  have hf := decS_fits (t0.drop a)
  rw [List.length_drop] at hf
  have ha := h.1
  refine ⟨by omega, ?_⟩
  rw [h.2, show n - i = (n - (i + 1)) + 1 by omega]
  simp only [decL, if_pos hd, List.drop_drop]
  by_cases g : (decL (n - (i + 1)) (t0.drop (a + (decS (t0.drop a)).2.1))).2.2 = 0
  · simp only [if_pos g, if_pos]; simp [Nat.add_assoc]
  · simp only [if_neg g]; simp [g, Nat.add_assoc]
theorem LSt.bad {t0 : List UInt8} {n i a : Nat} {acc : List (List UInt8)} (h : LSt t0 n i a acc) (hi : i < n) (hd : ¬ (decS (t0.drop a)).2.2 = 0) : decL n t0 = ([], a, (decS (t0.drop a)).2.2) := by
  rw [h.2, show n - i = (n - (i + 1)) + 1 by omega]
  simp only [decL, if_neg hd]; simp
theorem LSt.done {t0 : List UInt8} {n a : Nat} {acc : List (List UInt8)} (h : LSt t0 n n a acc) : decL n t0 = (acc, a, 0) := by
  rw [h.2, Nat.sub_self]
  simp [decL]
theorem uz1 {u : Nat} (h : ((u % 2 : Nat) : Int) = 1) : unzz u = -((u / 2 : Nat) : Int) - 1 := by unfold unzz; rw [if_neg (by omega)]
theorem uz0 {u : Nat} (h : ¬ ((u % 2 : Nat) : Int) = 1) : unzz u = ((u / 2 : Nat) : Int) := by unfold unzz; rw [if_pos (by omega)]
abbrev dec3V (r : CV × Nat × Nat) : D := .tup [vD r.1, .raw (.int .i64 (r.2.1 : Int)), .raw (.int .i64 (r.2.2 : Int))]
end Go.Proofs.Ytjbghmlofjkcfaa
