/- The walks of the reader of numbers. -/
import Derived.Test.YtjbghmlofjkcfaaCodV
import Derived.Test.YtjbghmlofjkcfaaFrz
namespace Go.Proofs.Ytjbghmlofjkcfaa
open Go.RowKit

/-- The number at the beginning of some bytes, its size, the error. -/
def rdU : Nat → Nat → List UInt8 → Nat × Nat × Nat
  | _, _, [] => (0, 0, 19)
  | i, x, c :: r => if i = 9 ∧ 1 < c.toNat then (0, 0, 2) else if 128 ≤ c.toNat then rdU (i + 1) (x + c.toNat % 128 * 128 ^ i) r
    else if c.toNat = 0 ∧ 0 < i then (0, 0, 3) else (x + c.toNat % 128 * 128 ^ i, i + 1, 0)
theorem and127 (c : UInt8) : bitsOf .and .u8 (c.toNat : Int) 127 = ((c.toNat % 128 : Nat) : Int) := by
  have key : ∀ a : Fin 256, bitsOf .and .u8 ((a.val : Nat) : Int) 127 = ((a.val % 128 : Nat) : Int) := by decide +kernel
  exact key ⟨c.toNat, c.toNat_lt⟩
theorem and128 (c : UInt8) : bitsOf .and .u8 (c.toNat : Int) 128 = ((c.toNat / 128 * 128 : Nat) : Int) := by
  have key : ∀ a : Fin 256, bitsOf .and .u8 ((a.val : Nat) : Int) 128 = ((a.val / 128 * 128 : Nat) : Int) := by decide +kernel
  exact key ⟨c.toNat, c.toNat_lt⟩
theorem shlk (m k : Nat) (hk : k ≤ 9) (hm : m * 128 ^ k < 18446744073709551616) : IntKind.u64.wrap ((m : Int) * 2 ^ (min (7 * (k : Int)).toNat IntKind.u64.bits)) = ((m * 128 ^ k : Nat) : Int) := by
  have h1 : min (7 * (k : Int)).toNat IntKind.u64.bits = 7 * k := by show min (7 * (k : Int)).toNat 64 = _; omega
  rw [h1, show (2 : Int) ^ (7 * k) = ((128 ^ k : Nat) : Int) by rw [Int.pow_mul]; simp]
  rw [← Int.natCast_mul, wrap64n _ hm]
theorem orAdd (x y k : Nat) (hx : x < 128 ^ k) (hs : x + y * 128 ^ k < 18446744073709551616) : bitsOf .or .u64 (x : Int) ((y * 128 ^ k : Nat) : Int) = ((x + y * 128 ^ k : Nat) : Int) := by
  show IntKind.u64.wrap ((BitVec.ofInt 64 (x : Int) ||| BitVec.ofInt 64 ((y * 128 ^ k : Nat) : Int)).toNat : Int) = _
  have hx' : ∀ (a : Nat), a < 18446744073709551616 → (BitVec.ofInt 64 (a : Int)).toNat = a := fun a ha => by rw [BitVec.toNat_ofInt]; omega
  rw [BitVec.toNat_or, hx' _ (by omega), hx' _ (by omega)]
  have hp : (128 : Nat) ^ k = 2 ^ (7 * k) := by rw [Nat.pow_mul]
  have h := Nat.two_pow_add_eq_or_of_lt (i := 7 * k) (b := x) (by rw [← hp]; exact hx) y
  rw [Nat.or_comm, Nat.mul_comm y, hp, ← h, ← hp, wrap64n _ (by rw [Nat.mul_comm]; omega)]
  rw [Nat.add_comm]
theorem pow9 (k : Nat) (hk : k ≤ 9) : 128 ^ k ≤ 9223372036854775808 := Nat.le_trans (Nat.pow_le_pow_right (by omega) hk) (by decide)
theorem pow8 (k : Nat) (hk : k < 9) : 128 ^ k ≤ 72057594037927936 := Nat.le_trans (Nat.pow_le_pow_right (by omega) (show k ≤ 8 by omega)) (by decide)
theorem dropc {l : List UInt8} {k : Nat} (hk : k < l.length) : l.drop k = l[k] :: l.drop (k + 1) := List.drop_eq_getElem_cons hk
abbrev dec3 (r : Nat × Nat × Nat) : D := .tup [.raw (.int .u64 (r.1 : Int)), .raw (.int .i64 (r.2.1 : Int)), .raw (.int .i64 (r.2.2 : Int))]
/-- What a number's next byte comes to. -/
theorem stepB {k x : Nat} {c : UInt8} (hk : k ≤ 9) (hx : x < 128 ^ k) (h9 : ¬ (k = 9 ∧ 1 < c.toNat)) : c.toNat % 128 * 128 ^ k < 18446744073709551616 ∧ x + c.toNat % 128 * 128 ^ k < 18446744073709551616 ∧ (128 ≤ c.toNat → k < 9 ∧ x + c.toNat % 128 * 128 ^ k < 128 ^ (k + 1)) := by
  have hlt := c.toNat_lt
  have hmul : x + c.toNat % 128 * 128 ^ k < 128 ^ (k + 1) := by
    have h1 : c.toNat % 128 + 1 ≤ 128 := by omega
    have h2 := Nat.mul_le_mul_right (128 ^ k) h1
    rw [Nat.add_mul, Nat.one_mul] at h2
    rw [Nat.pow_succ]; omega
  by_cases e : k = 9
  · subst e
    have h1 : c.toNat ≤ 1 := by omega
    have h2 : c.toNat % 128 ≤ 1 := by omega
    have h3 := Nat.mul_le_mul_right (128 ^ 9) h2
    have h4 : (128 : Nat) ^ 9 = 9223372036854775808 := by decide
    rw [h4] at h3 hx ⊢
    exact ⟨by omega, by omega, fun h => by omega⟩
  · have h1 := pow9 (k + 1) (by omega)
    exact ⟨by omega, by omega, fun _ => ⟨by omega, hmul⟩⟩
set_option maxHeartbeats 1000000 in
theorem integer_p (b : List UInt8) (hb : b.length ≤ 140737488355328) : PCalls Try.prog 46 [.d (bytesD b)] (dec3 (rdU 0 0 b)) := by
  refine a_enter Try.func46 rfl rfl Try.ntmps46 rfl rfl rfl fun F hF => ?_
  refine a_seq ?_
  refine a_region ?_
  refine Pstep.go (st_assign rfl rfl) ?_
  refine Pstep.go (st_assign rfl rfl) ?_
  refine Pstep.go (st_assign rfl rfl) ?_
  refine o_nil ?_
  refine a_seq ?_
  refine a_region ?_
  refine Pstep.go (st_assign rfl rfl) ?_
  refine o_nil ?_
  refine a_seq ?_
  refine a_seq ?_
  refine a_region ?_
  refine Pstep.go (st_move rfl rfl) ?_
  first | refine Pstep.go (st_lenMap rfl Try.underlying27 rfl) ?_ | refine Pstep.go (st_lenD rfl rfl Try.underlying27 rfl) ?_ | refine Pstep.go (st_lenO rfl Try.underlying27 rfl) ?_ | refine Pstep.go (st_lenSL rfl Try.underlying27 rfl) ?_ | refine Pstep.go (st_lenS rfl Try.underlying27 rfl) ?_
  refine Pstep.go (st_move rfl rfl) ?_
  refine o_nil ?_
  refine a_block ?_
  refine a_loopP (α := Nat × Nat) (fun p => ⟨42, [(5, (.d (.raw (.int .u64 (p.2 : Int))))), (8, (.d (bytesD b))), (9, (.d (.raw (.int .i64 (b.length : Int))))), (10, (.d (.raw (.int .i64 (p.1 : Int)))))], []⟩) (fun p => p.1 ≤ b.length ∧ p.1 ≤ 9 ∧ p.2 < 128 ^ p.1 ∧ rdU p.1 p.2 (b.drop p.1) = rdU 0 0 b) (fun p => b.length - p.1) ((0, 0)) (⟨Nat.zero_le _, by show 0 ≤ 9; omega, by show 0 < 128 ^ 0; decide, rfl⟩) (lep_of hF [] rfl rfl ⟨rfl, rfl, rfl, rfl, trivial⟩) ?_
  rintro ⟨k, x⟩ ⟨hk0, hk9, hx, hr⟩
  dsimp only at hk0 hk9 hx hr ⊢
  refine a_seq ?_
  refine a_region ?_
  first | refine Pstep.go (st_lss rfl rfl rfl) ?_ | refine Pstep.go (st_lssS rfl rfl rfl) ?_
  refine o_nil ?_
  refine a_seq ?_
  first | refine a_if rfl (fun h11 => ?_) (fun h11 => ?_) | refine a_cond rfl (fun h11 => ?_) (fun h11 => ?_)
  · refine a_skip ?_
    refine a_seq ?_
    refine a_block ?_
    refine a_seq ?_
    refine a_region ?_
    have hk : k < b.length := lt_cast h11
    obtain ⟨c, hc⟩ : ∃ c, c = b[k] := ⟨_, rfl⟩
    refine Pstep.go (st_move rfl rfl) ?_
    first | refine Pstep.go (st_indexD (k) rfl rfl (rfl) (getm hk) Try.underlying27 rfl sz5 rfl) ?_ | refine Pstep.go (st_indexO (k) rfl rfl (rfl) (getm hk) rfl Try.underlying27 sz5 rfl) ?_
    first | refine Pstep.go (st_loadD1 rfl rfl on5 rfl) ?_ | refine Pstep.go (st_loadP rfl rfl rfl on5 rfl) ?_ | refine Pstep.go (st_loadR rfl rfl (rfl) rfl on5 rfl) ?_
    refine o_weakD 14 (.raw (.int .u8 (c.toNat : Int))) rfl (fun _ _ _ h => by rw [hc]; exact h) ?_
    refine Pstep.go (st_assign rfl rfl) ?_
    refine Pstep.go (st_assign rfl rfl) ?_
    refine o_nil ?_
    refine a_seq ?_
    refine a_seq ?_
    refine a_region ?_
    refine Pstep.go (st_move rfl rfl) ?_
    first | refine Pstep.go (st_eql rfl rfl rfl) ?_ | refine Pstep.go (st_eqlSL rfl rfl rfl) ?_ | refine Pstep.go (st_eqlS rfl rfl rfl) ?_ | refine Pstep.go (st_eqlB Try.underlying3 rfl rfl rfl) ?_ | refine Pstep.go (st_eqlP Try.underlying3 rfl rfl rfl) ?_ | refine Pstep.go (st_eqlN Try.underlying3 rfl rfl) ?_ | refine Pstep.go (st_eqlF Try.underlying3 rfl rfl rfl) ?_ | refine Pstep.go (st_eqlFN Try.underlying3 rfl rfl) ?_
    refine Pstep.go (st_move rfl rfl) ?_
    first | refine o_splitP 17 rfl (fun h17 => ?_) (fun h17 => ?_) | refine o_splitB 17 rfl (fun h17 => ?_) (fun h17 => ?_)
    · refine o_run rfl rfl rfl ?_
      refine Pstep.go (st_move rfl rfl) ?_
      refine o_run rfl rfl rfl ?_
      first | refine Pstep.go (st_gtr rfl rfl rfl) ?_ | refine Pstep.go (st_gtrS rfl rfl rfl) ?_
      refine Pstep.go (st_pickT rfl rfl rfl rfl) ?_
      refine o_nil ?_
      first | refine a_if rfl (fun h20 => ?_) (fun h20 => ?_) | refine a_cond rfl (fun h20 => ?_) (fun h20 => ?_)
      · have e9 : k = 9 ∧ 1 < c.toNat := by have h1 := h17; have h2 := h20; omega
        refine a_seq ?_
        refine a_region ?_
        refine Pstep.go (st_assign rfl rfl) ?_
        refine Pstep.go (st_assign rfl rfl) ?_
        refine Pstep.go (st_assign rfl rfl) ?_
        refine o_nil ?_
        refine a_ret ?_
        exact ⟨_, [], [], res_of rfl, rfl, rfl, by rw [← hr, dropc hk]; simp only [rdU]; rw [← hc, if_pos e9]; rfl, rfl⟩
      · refine a_skip ?_
        refine a_seq ?_
        refine a_region ?_
        have g9 : ¬ (k = 9 ∧ 1 < c.toNat) := by first | (have h2 := h20; omega) | (have h1 := h17; omega)
        have s1 := (stepB hk9 hx g9).1
        have s2 := (stepB hk9 hx g9).2.1
        have s3 := (stepB hk9 hx g9).2.2
        refine Pstep.go (st_move rfl rfl) ?_
        refine Pstep.go (st_move rfl rfl) ?_
        refine Pstep.go (st_bits rfl rfl rfl (and127 c) rfl) ?_
        refine Pstep.go (st_conv rfl Try.underlying5 Try.underlying29 (wrap64n _ (by omega)) rfl) ?_
        refine Pstep.go (st_move rfl rfl) ?_
        refine Pstep.go (st_mul rfl rfl (IntWalk.i64_in _ (by omega)) rfl) ?_
        refine Pstep.go (st_shl rfl rfl (by omega) (shlk _ k hk9 s1) rfl) ?_
        refine Pstep.go (st_bits rfl rfl rfl (orAdd x _ k hx s2) rfl) ?_
        refine Pstep.go (st_assign rfl rfl) ?_
        refine o_nil ?_
        refine a_seq ?_
        refine a_seq ?_
        refine a_region ?_
        refine Pstep.go (st_move rfl rfl) ?_
        refine Pstep.go (st_bits rfl rfl rfl (and128 c) rfl) ?_
        first | refine Pstep.go (st_neq rfl rfl rfl) ?_ | refine Pstep.go (st_neqSL rfl rfl rfl) ?_ | refine Pstep.go (st_neqS rfl rfl rfl) ?_ | refine Pstep.go (st_neqB Try.underlying5 rfl rfl rfl) ?_ | refine Pstep.go (st_neqP Try.underlying5 rfl rfl rfl) ?_ | refine Pstep.go (st_neqN Try.underlying5 rfl rfl) ?_ | refine Pstep.go (st_neqF Try.underlying5 rfl rfl rfl) ?_ | refine Pstep.go (st_neqFN Try.underlying5 rfl rfl) ?_
        refine o_nil ?_
        first | refine a_if rfl (fun h31 => ?_) (fun h31 => ?_) | refine a_cond rfl (fun h31 => ?_) (fun h31 => ?_)
        · have g128 : 128 ≤ c.toNat := by have h := h31; omega
          refine a_exit ?_
          refine a_region ?_
          refine Pstep.go (st_add rfl rfl (IntWalk.i64_in _ (by omega)) rfl) ?_
          refine Pstep.go (st_move rfl rfl) ?_
          refine o_nil ?_
          exact ⟨(k + 1, x + c.toNat % 128 * 128 ^ k), ⟨by show k + 1 ≤ _; omega, by show k + 1 ≤ 9; have := (s3 g128).1; omega, (s3 g128).2, by rw [← hr, dropc hk]; simp only [rdU]; rw [← hc, if_neg g9, if_pos g128]⟩, by show b.length - (k + 1) < b.length - k; omega, lep_of hF [] rfl (rfl) ⟨rfl, rfl, rfl, rfl, trivial⟩⟩
        · have g128 : ¬ 128 ≤ c.toNat := by have h := h31; have := c.toNat_lt; omega
          refine a_skip ?_
          refine a_seq ?_
          refine a_seq ?_
          refine a_region ?_
          refine Pstep.go (st_move rfl rfl) ?_
          first | refine Pstep.go (st_eql rfl rfl rfl) ?_ | refine Pstep.go (st_eqlSL rfl rfl rfl) ?_ | refine Pstep.go (st_eqlS rfl rfl rfl) ?_ | refine Pstep.go (st_eqlB Try.underlying5 rfl rfl rfl) ?_ | refine Pstep.go (st_eqlP Try.underlying5 rfl rfl rfl) ?_ | refine Pstep.go (st_eqlN Try.underlying5 rfl rfl) ?_ | refine Pstep.go (st_eqlF Try.underlying5 rfl rfl rfl) ?_ | refine Pstep.go (st_eqlFN Try.underlying5 rfl rfl) ?_
          refine Pstep.go (st_move rfl rfl) ?_
          first | refine o_splitP 34 rfl (fun h34 => ?_) (fun h34 => ?_) | refine o_splitB 34 rfl (fun h34 => ?_) (fun h34 => ?_)
          · refine o_run rfl rfl rfl ?_
            refine Pstep.go (st_move rfl rfl) ?_
            refine o_run rfl rfl rfl ?_
            first | refine Pstep.go (st_gtr rfl rfl rfl) ?_ | refine Pstep.go (st_gtrS rfl rfl rfl) ?_
            refine Pstep.go (st_pickT rfl rfl rfl rfl) ?_
            refine o_nil ?_
            first | refine a_if rfl (fun h37 => ?_) (fun h37 => ?_) | refine a_cond rfl (fun h37 => ?_) (fun h37 => ?_)
            · refine a_seq ?_
              refine a_region ?_
              refine Pstep.go (st_assign rfl rfl) ?_
              refine Pstep.go (st_assign rfl rfl) ?_
              refine Pstep.go (st_assign rfl rfl) ?_
              refine o_nil ?_
              refine a_ret ?_
              have e0 : c.toNat = 0 ∧ 0 < k := by have h1 := h34; have h2 := h37; omega
              exact ⟨_, [], [], res_of rfl, rfl, rfl, by rw [← hr, dropc hk]; simp only [rdU]; rw [← hc, if_neg g9, if_neg g128, if_pos e0]; rfl, rfl⟩
            · refine a_skip ?_
              refine a_seq ?_
              refine a_region ?_
              refine Pstep.go (st_move rfl rfl) ?_
              refine Pstep.go (st_move rfl rfl) ?_
              refine Pstep.go (st_add rfl rfl (IntWalk.i64_in _ (by omega)) rfl) ?_
              refine Pstep.go (st_assign rfl rfl) ?_
              refine Pstep.go (st_assign rfl rfl) ?_
              refine Pstep.go (st_assign rfl rfl) ?_
              refine o_nil ?_
              refine a_ret ?_
              have e0 : ¬ (c.toNat = 0 ∧ 0 < k) := by first | (have h2 := h37; omega) | (have h1 := h34; omega)
              exact ⟨_, [], [], res_of rfl, rfl, rfl, by rw [← hr, dropc hk]; simp only [rdU]; rw [← hc, if_neg g9, if_neg g128, if_neg e0]; rfl, rfl⟩
          · refine o_pass rfl rfl rfl rfl ?_
            refine o_pass rfl rfl rfl rfl ?_
            refine Pstep.go (st_pickF rfl rfl rfl rfl) ?_
            refine o_nil ?_
            refine a_false rfl rfl ?_
            refine a_skip ?_
            refine a_seq ?_
            refine a_region ?_
            refine Pstep.go (st_move rfl rfl) ?_
            refine Pstep.go (st_move rfl rfl) ?_
            refine Pstep.go (st_add rfl rfl (IntWalk.i64_in _ (by omega)) rfl) ?_
            refine Pstep.go (st_assign rfl rfl) ?_
            refine Pstep.go (st_assign rfl rfl) ?_
            refine Pstep.go (st_assign rfl rfl) ?_
            refine o_nil ?_
            refine a_ret ?_
            have e0 : ¬ (c.toNat = 0 ∧ 0 < k) := by first | (have h2 := h37; omega) | (have h1 := h34; omega)
            exact ⟨_, [], [], res_of rfl, rfl, rfl, by rw [← hr, dropc hk]; simp only [rdU]; rw [← hc, if_neg g9, if_neg g128, if_neg e0]; rfl, rfl⟩
    · refine o_pass rfl rfl rfl rfl ?_
      refine o_pass rfl rfl rfl rfl ?_
      refine Pstep.go (st_pickF rfl rfl rfl rfl) ?_
      refine o_nil ?_
      refine a_false rfl rfl ?_
      refine a_skip ?_
      refine a_seq ?_
      refine a_region ?_
      have g9 : ¬ (k = 9 ∧ 1 < c.toNat) := by first | (have h2 := h20; omega) | (have h1 := h17; omega)
      have s1 := (stepB hk9 hx g9).1
      have s2 := (stepB hk9 hx g9).2.1
      have s3 := (stepB hk9 hx g9).2.2
      refine Pstep.go (st_move rfl rfl) ?_
      refine Pstep.go (st_move rfl rfl) ?_
      refine Pstep.go (st_bits rfl rfl rfl (and127 c) rfl) ?_
      refine Pstep.go (st_conv rfl Try.underlying5 Try.underlying29 (wrap64n _ (by omega)) rfl) ?_
      refine Pstep.go (st_move rfl rfl) ?_
      refine Pstep.go (st_mul rfl rfl (IntWalk.i64_in _ (by omega)) rfl) ?_
      refine Pstep.go (st_shl rfl rfl (by omega) (shlk _ k hk9 s1) rfl) ?_
      refine Pstep.go (st_bits rfl rfl rfl (orAdd x _ k hx s2) rfl) ?_
      refine Pstep.go (st_assign rfl rfl) ?_
      refine o_nil ?_
      refine a_seq ?_
      refine a_seq ?_
      refine a_region ?_
      refine Pstep.go (st_move rfl rfl) ?_
      refine Pstep.go (st_bits rfl rfl rfl (and128 c) rfl) ?_
      first | refine Pstep.go (st_neq rfl rfl rfl) ?_ | refine Pstep.go (st_neqSL rfl rfl rfl) ?_ | refine Pstep.go (st_neqS rfl rfl rfl) ?_ | refine Pstep.go (st_neqB Try.underlying5 rfl rfl rfl) ?_ | refine Pstep.go (st_neqP Try.underlying5 rfl rfl rfl) ?_ | refine Pstep.go (st_neqN Try.underlying5 rfl rfl) ?_ | refine Pstep.go (st_neqF Try.underlying5 rfl rfl rfl) ?_ | refine Pstep.go (st_neqFN Try.underlying5 rfl rfl) ?_
      refine o_nil ?_
      first | refine a_if rfl (fun h31 => ?_) (fun h31 => ?_) | refine a_cond rfl (fun h31 => ?_) (fun h31 => ?_)
      · have g128 : 128 ≤ c.toNat := by have h := h31; omega
        refine a_exit ?_
        refine a_region ?_
        refine Pstep.go (st_add rfl rfl (IntWalk.i64_in _ (by omega)) rfl) ?_
        refine Pstep.go (st_move rfl rfl) ?_
        refine o_nil ?_
        exact ⟨(k + 1, x + c.toNat % 128 * 128 ^ k), ⟨by show k + 1 ≤ _; omega, by show k + 1 ≤ 9; have := (s3 g128).1; omega, (s3 g128).2, by rw [← hr, dropc hk]; simp only [rdU]; rw [← hc, if_neg g9, if_pos g128]⟩, by show b.length - (k + 1) < b.length - k; omega, lep_of hF [] rfl (rfl) ⟨rfl, rfl, rfl, rfl, trivial⟩⟩
      · have g128 : ¬ 128 ≤ c.toNat := by have h := h31; have := c.toNat_lt; omega
        refine a_skip ?_
        refine a_seq ?_
        refine a_seq ?_
        refine a_region ?_
        refine Pstep.go (st_move rfl rfl) ?_
        first | refine Pstep.go (st_eql rfl rfl rfl) ?_ | refine Pstep.go (st_eqlSL rfl rfl rfl) ?_ | refine Pstep.go (st_eqlS rfl rfl rfl) ?_ | refine Pstep.go (st_eqlB Try.underlying5 rfl rfl rfl) ?_ | refine Pstep.go (st_eqlP Try.underlying5 rfl rfl rfl) ?_ | refine Pstep.go (st_eqlN Try.underlying5 rfl rfl) ?_ | refine Pstep.go (st_eqlF Try.underlying5 rfl rfl rfl) ?_ | refine Pstep.go (st_eqlFN Try.underlying5 rfl rfl) ?_
        refine Pstep.go (st_move rfl rfl) ?_
        first | refine o_splitP 34 rfl (fun h34 => ?_) (fun h34 => ?_) | refine o_splitB 34 rfl (fun h34 => ?_) (fun h34 => ?_)
        · refine o_run rfl rfl rfl ?_
          refine Pstep.go (st_move rfl rfl) ?_
          refine o_run rfl rfl rfl ?_
          first | refine Pstep.go (st_gtr rfl rfl rfl) ?_ | refine Pstep.go (st_gtrS rfl rfl rfl) ?_
          refine Pstep.go (st_pickT rfl rfl rfl rfl) ?_
          refine o_nil ?_
          first | refine a_if rfl (fun h37 => ?_) (fun h37 => ?_) | refine a_cond rfl (fun h37 => ?_) (fun h37 => ?_)
          · refine a_seq ?_
            refine a_region ?_
            refine Pstep.go (st_assign rfl rfl) ?_
            refine Pstep.go (st_assign rfl rfl) ?_
            refine Pstep.go (st_assign rfl rfl) ?_
            refine o_nil ?_
            refine a_ret ?_
            have e0 : c.toNat = 0 ∧ 0 < k := by have h1 := h34; have h2 := h37; omega
            exact ⟨_, [], [], res_of rfl, rfl, rfl, by rw [← hr, dropc hk]; simp only [rdU]; rw [← hc, if_neg g9, if_neg g128, if_pos e0]; rfl, rfl⟩
          · refine a_skip ?_
            refine a_seq ?_
            refine a_region ?_
            refine Pstep.go (st_move rfl rfl) ?_
            refine Pstep.go (st_move rfl rfl) ?_
            refine Pstep.go (st_add rfl rfl (IntWalk.i64_in _ (by omega)) rfl) ?_
            refine Pstep.go (st_assign rfl rfl) ?_
            refine Pstep.go (st_assign rfl rfl) ?_
            refine Pstep.go (st_assign rfl rfl) ?_
            refine o_nil ?_
            refine a_ret ?_
            have e0 : ¬ (c.toNat = 0 ∧ 0 < k) := by first | (have h2 := h37; omega) | (have h1 := h34; omega)
            exact ⟨_, [], [], res_of rfl, rfl, rfl, by rw [← hr, dropc hk]; simp only [rdU]; rw [← hc, if_neg g9, if_neg g128, if_neg e0]; rfl, rfl⟩
        · refine o_pass rfl rfl rfl rfl ?_
          refine o_pass rfl rfl rfl rfl ?_
          refine Pstep.go (st_pickF rfl rfl rfl rfl) ?_
          refine o_nil ?_
          refine a_false rfl rfl ?_
          refine a_skip ?_
          refine a_seq ?_
          refine a_region ?_
          refine Pstep.go (st_move rfl rfl) ?_
          refine Pstep.go (st_move rfl rfl) ?_
          refine Pstep.go (st_add rfl rfl (IntWalk.i64_in _ (by omega)) rfl) ?_
          refine Pstep.go (st_assign rfl rfl) ?_
          refine Pstep.go (st_assign rfl rfl) ?_
          refine Pstep.go (st_assign rfl rfl) ?_
          refine o_nil ?_
          refine a_ret ?_
          have e0 : ¬ (c.toNat = 0 ∧ 0 < k) := by first | (have h2 := h37; omega) | (have h1 := h34; omega)
          exact ⟨_, [], [], res_of rfl, rfl, rfl, by rw [← hr, dropc hk]; simp only [rdU]; rw [← hc, if_neg g9, if_neg g128, if_neg e0]; rfl, rfl⟩
  · refine a_exit ?_
    refine a_seq ?_
    refine a_region ?_
    refine Pstep.go (st_assign rfl rfl) ?_
    refine Pstep.go (st_assign rfl rfl) ?_
    refine Pstep.go (st_assign rfl rfl) ?_
    refine o_nil ?_
    refine a_ret ?_
    exact ⟨_, [], [], res_of rfl, rfl, rfl, by rw [← hr, List.drop_eq_nil_of_le (by omega)]; rfl, rfl⟩
end Go.Proofs.Ytjbghmlofjkcfaa
