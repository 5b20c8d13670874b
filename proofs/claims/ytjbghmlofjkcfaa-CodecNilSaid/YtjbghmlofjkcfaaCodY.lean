/- The walks of the Reader's functions. -/
import Derived.Test.YtjbghmlofjkcfaaCodX
namespace Go.Proofs.Ytjbghmlofjkcfaa
open Go.RowKit

def decB : List UInt8 → Bool × Nat × Nat
  | [] => (false, 0, 19)
  | c :: _ => if 1 < c.toNat then (false, 0, 3) else (decide (c.toNat = 1), 1, 0)
theorem decB_fits : Fits decB := fun b => by cases b <;> simp only [decB] <;> (try split) <;> simp
def decS (b : List UInt8) : List UInt8 × Nat × Nat := if (rdU 0 0 b).2.2 = 0 then (if 1048576 < (rdU 0 0 b).1 then ([], 0, 5) else if b.length - (rdU 0 0 b).2.1 < (rdU 0 0 b).1 then ([], 0, 19)
  else ((b.drop (rdU 0 0 b).2.1).take (rdU 0 0 b).1, (rdU 0 0 b).2.1 + (rdU 0 0 b).1, 0)) else ([], 0, (rdU 0 0 b).2.2)
theorem decS_fits : Fits decS := fun b => by
  have h := rdU_fits b
  unfold decS
  split
  · split
    · simp
    · split
      · simp
      · dsimp only; omega
  · simp
theorem rdU_lt (b : List UInt8) : ∀ i x, i ≤ 9 → x < 128 ^ i → (rdU i x b).1 < 18446744073709551616 := by
  induction b with
  | nil => intro i x _ _; simp [rdU]
  | cons c r ih =>
    intro i x hi hx
    simp only [rdU]
    split
    · simp
    · rename_i h9
      obtain h1 := stepB hi hx h9
      split
      · rename_i h128
        have h2 := h1.2.2 h128
        exact ih _ _ h2.1 h2.2
      · split
        · simp
        · exact h1.2.1
theorem rd_lt (b : List UInt8) : (rdU 0 0 b).1 < 18446744073709551616 := rdU_lt b 0 0 (by omega) (by decide)
theorem boolFn_p (b : List UInt8) (hb : b.length ≤ 140737488355328) : PCalls Try.prog 48 [.d (bytesD b)] (.tup [.raw (.bool (decB b).1), .raw (.int .i64 ((decB b).2.1 : Int)), .raw (.int .i64 ((decB b).2.2 : Int))]) := by
  cases b with
  | nil =>
    refine a_enter Try.func48 rfl rfl Try.ntmps48 rfl rfl rfl fun F hF => ?_
    refine a_seq ?_
    refine a_region ?_
    refine Pstep.go (st_assign rfl rfl) ?_
    refine Pstep.go (st_assign rfl rfl) ?_
    refine Pstep.go (st_assign rfl rfl) ?_
    refine o_nil ?_
    refine a_seq ?_
    refine a_block ?_
    refine a_seq ?_
    refine a_region ?_
    refine Pstep.go (st_move rfl rfl) ?_
    first | refine Pstep.go (st_lenMap rfl Try.underlying27 rfl) ?_ | refine Pstep.go (st_lenD rfl rfl Try.underlying27 rfl) ?_ | refine Pstep.go (st_lenO rfl Try.underlying27 rfl) ?_ | refine Pstep.go (st_lenSL rfl Try.underlying27 rfl) ?_ | refine Pstep.go (st_lenS rfl Try.underlying27 rfl) ?_
    first | refine Pstep.go (st_eql rfl rfl rfl) ?_ | refine Pstep.go (st_eqlSL rfl rfl rfl) ?_ | refine Pstep.go (st_eqlS rfl rfl rfl) ?_ | refine Pstep.go (st_eqlB Try.underlying3 rfl rfl rfl) ?_ | refine Pstep.go (st_eqlP Try.underlying3 rfl rfl rfl) ?_ | refine Pstep.go (st_eqlN Try.underlying3 rfl rfl) ?_ | refine Pstep.go (st_eqlF Try.underlying3 rfl rfl rfl) ?_ | refine Pstep.go (st_eqlFN Try.underlying3 rfl rfl) ?_
    refine Pstep.go (st_assign rfl rfl) ?_
    refine o_nil ?_
    refine a_true rfl (rfl) ?_
    refine a_seq ?_
    refine a_region ?_
    refine Pstep.go (st_assign rfl rfl) ?_
    refine Pstep.go (st_assign rfl rfl) ?_
    refine Pstep.go (st_assign rfl rfl) ?_
    refine o_nil ?_
    refine a_ret ?_
    exact ⟨_, [], [], res_of rfl, rfl, rfl, rfl, rfl⟩
  | cons c r =>
    refine a_enter Try.func48 rfl rfl Try.ntmps48 rfl rfl rfl fun F hF => ?_
    refine a_seq ?_
    refine a_region ?_
    refine Pstep.go (st_assign rfl rfl) ?_
    refine Pstep.go (st_assign rfl rfl) ?_
    refine Pstep.go (st_assign rfl rfl) ?_
    refine o_nil ?_
    refine a_seq ?_
    refine a_block ?_
    refine a_seq ?_
    refine a_region ?_
    refine Pstep.go (st_move rfl rfl) ?_
    first | refine Pstep.go (st_lenMap rfl Try.underlying27 rfl) ?_ | refine Pstep.go (st_lenD rfl rfl Try.underlying27 rfl) ?_ | refine Pstep.go (st_lenO rfl Try.underlying27 rfl) ?_ | refine Pstep.go (st_lenSL rfl Try.underlying27 rfl) ?_ | refine Pstep.go (st_lenS rfl Try.underlying27 rfl) ?_
    first | refine Pstep.go (st_eql rfl rfl rfl) ?_ | refine Pstep.go (st_eqlSL rfl rfl rfl) ?_ | refine Pstep.go (st_eqlS rfl rfl rfl) ?_ | refine Pstep.go (st_eqlB Try.underlying3 rfl rfl rfl) ?_ | refine Pstep.go (st_eqlP Try.underlying3 rfl rfl rfl) ?_ | refine Pstep.go (st_eqlN Try.underlying3 rfl rfl) ?_ | refine Pstep.go (st_eqlF Try.underlying3 rfl rfl rfl) ?_ | refine Pstep.go (st_eqlFN Try.underlying3 rfl rfl) ?_
    refine Pstep.go (st_assign rfl rfl) ?_
    refine o_nil ?_
    refine a_false rfl (decide_eq_false (by simp only [List.length_cons]; omega)) ?_
    refine a_seq ?_
    refine a_region ?_
    refine Pstep.go (st_move rfl rfl) ?_
    first | refine Pstep.go (st_indexD (0) rfl rfl (rfl) (rfl) Try.underlying27 rfl sz5 rfl) ?_ | refine Pstep.go (st_indexO (0) rfl rfl (rfl) (rfl) rfl Try.underlying27 sz5 rfl) ?_
    first | refine Pstep.go (st_loadD1 rfl rfl on5 rfl) ?_ | refine Pstep.go (st_loadP rfl rfl rfl on5 rfl) ?_ | refine Pstep.go (st_loadR rfl rfl (rfl) rfl on5 rfl) ?_
    first | refine Pstep.go (st_gtr rfl rfl rfl) ?_ | refine Pstep.go (st_gtrS rfl rfl rfl) ?_
    refine Pstep.go (st_assign rfl rfl) ?_
    refine o_nil ?_
    first | refine a_if rfl (fun h9 => ?_) (fun h9 => ?_) | refine a_cond rfl (fun h9 => ?_) (fun h9 => ?_)
    · refine a_seq ?_
      refine a_region ?_
      refine Pstep.go (st_assign rfl rfl) ?_
      refine Pstep.go (st_assign rfl rfl) ?_
      refine Pstep.go (st_assign rfl rfl) ?_
      refine o_nil ?_
      refine a_ret ?_
      have h1 : 1 < c.toNat := by have h := h9; omega
      exact ⟨_, [], [], res_of rfl, rfl, rfl, by simp only [decB, if_pos h1]; rfl, rfl⟩
    · refine a_skip ?_
      refine a_seq ?_
      refine a_region ?_
      refine Pstep.go (st_move rfl rfl) ?_
      first | refine Pstep.go (st_indexD (0) rfl rfl (rfl) (rfl) Try.underlying27 rfl sz5 rfl) ?_ | refine Pstep.go (st_indexO (0) rfl rfl (rfl) (rfl) rfl Try.underlying27 sz5 rfl) ?_
      first | refine Pstep.go (st_loadD1 rfl rfl on5 rfl) ?_ | refine Pstep.go (st_loadP rfl rfl rfl on5 rfl) ?_ | refine Pstep.go (st_loadR rfl rfl (rfl) rfl on5 rfl) ?_
      first | refine Pstep.go (st_eql rfl rfl rfl) ?_ | refine Pstep.go (st_eqlSL rfl rfl rfl) ?_ | refine Pstep.go (st_eqlS rfl rfl rfl) ?_ | refine Pstep.go (st_eqlB Try.underlying5 rfl rfl rfl) ?_ | refine Pstep.go (st_eqlP Try.underlying5 rfl rfl rfl) ?_ | refine Pstep.go (st_eqlN Try.underlying5 rfl rfl) ?_ | refine Pstep.go (st_eqlF Try.underlying5 rfl rfl rfl) ?_ | refine Pstep.go (st_eqlFN Try.underlying5 rfl rfl) ?_
      refine Pstep.go (st_assign rfl rfl) ?_
      refine Pstep.go (st_assign rfl rfl) ?_
      refine Pstep.go (st_assign rfl rfl) ?_
      refine o_nil ?_
      refine a_ret ?_
      have h1 : ¬ 1 < c.toNat := by have h := h9; omega
      exact ⟨_, [], [], res_of rfl, rfl, rfl, by simp only [decB, if_neg h1]; rw [show decide ((c.toNat : Int) = 1) = decide (c.toNat = 1) by rw [decide_eq_decide]; omega]; rfl, rfl⟩
theorem wrapS (n : Nat) (h : n ≤ 9223372036854775807) : IntKind.i64.wrap (n : Int) = (n : Int) := IntWalk.i64_in _ (by omega)
theorem wrapSub {n k : Nat} (hk : k ≤ n) (hn : n < 18446744073709551616) : IntKind.u64.wrap ((n : Int) - (k : Int)) = ((n - k : Nat) : Int) := by
  rw [← wrap64n (n - k) (by omega)]; congr 1; omega
theorem blobFn_p (b : List UInt8) (hb : b.length ≤ 1000000000000) : PCalls Try.prog 50 [.d (bytesD b)] (.tup [bytesD (decS b).1, .raw (.int .i64 ((decS b).2.1 : Int)), .raw (.int .i64 ((decS b).2.2 : Int))]) := by
  have hf := rdU_fits b
  have hlt := rd_lt b
  refine a_enter Try.func50 rfl rfl Try.ntmps50 rfl rfl rfl fun F hF => ?_
  refine a_seq ?_
  refine a_region ?_
  refine Pstep.go (st_assign rfl rfl) ?_
  refine o_anyNil 2 rfl ?_
  refine Pstep.go (st_assign rfl rfl) ?_
  refine Pstep.go (st_assign rfl rfl) ?_
  refine o_nil ?_
  refine a_seq ?_
  refine a_region ?_
  refine Pstep.go (st_move rfl rfl) ?_
  refine Pstep.go (st_callP (integer_p b (by omega)) rfl rfl) ?_
  refine Pstep.go (st_move rfl rfl) ?_
  first | refine Pstep.go (st_extractD rfl rfl rfl) ?_ | refine Pstep.go (st_extract rfl rfl rfl) ?_
  first | refine Pstep.go (st_extractD rfl rfl rfl) ?_ | refine Pstep.go (st_extract rfl rfl rfl) ?_
  first | refine Pstep.go (st_extractD rfl rfl rfl) ?_ | refine Pstep.go (st_extract rfl rfl rfl) ?_
  refine Pstep.go (st_assign rfl rfl) ?_
  refine Pstep.go (st_assign rfl rfl) ?_
  refine Pstep.go (st_assign rfl rfl) ?_
  refine o_nil ?_
  refine a_seq ?_
  refine a_block ?_
  refine a_seq ?_
  refine a_region ?_
  refine Pstep.go (st_move rfl rfl) ?_
  first | refine Pstep.go (st_neq rfl rfl rfl) ?_ | refine Pstep.go (st_neqSL rfl rfl rfl) ?_ | refine Pstep.go (st_neqS rfl rfl rfl) ?_ | refine Pstep.go (st_neqB Try.underlying38 rfl rfl rfl) ?_ | refine Pstep.go (st_neqP Try.underlying38 rfl rfl rfl) ?_ | refine Pstep.go (st_neqN Try.underlying38 rfl rfl) ?_ | refine Pstep.go (st_neqF Try.underlying38 rfl rfl rfl) ?_ | refine Pstep.go (st_neqFN Try.underlying38 rfl rfl) ?_
  refine Pstep.go (st_assign rfl rfl) ?_
  refine o_nil ?_
  first | refine a_if rfl (fun h15 => ?_) (fun h15 => ?_) | refine a_cond rfl (fun h15 => ?_) (fun h15 => ?_)
  · refine a_seq ?_
    refine a_region ?_
    refine Pstep.go (st_move rfl rfl) ?_
    refine Pstep.go (st_assign rfl rfl) ?_
    refine o_anyNil 2 rfl ?_
    refine Pstep.go (st_assign rfl rfl) ?_
    refine Pstep.go (st_assign rfl rfl) ?_
    refine o_nil ?_
    refine a_ret ?_
    have e0 : ¬ (rdU 0 0 b).2.2 = 0 := by have h := h15; omega
    exact ⟨_, [], [], res_of rfl, rfl, rfl, by unfold decS; rw [if_neg e0] <;> rfl, rfl⟩
  · have e0 : (rdU 0 0 b).2.2 = 0 := by have h := h15; omega
    refine a_seq ?_
    refine a_region ?_
    refine Pstep.go (st_move rfl rfl) ?_
    first | refine Pstep.go (st_gtr rfl rfl rfl) ?_ | refine Pstep.go (st_gtrS rfl rfl rfl) ?_
    refine Pstep.go (st_assign rfl rfl) ?_
    refine o_nil ?_
    first | refine a_if rfl (fun h19 => ?_) (fun h19 => ?_) | refine a_cond rfl (fun h19 => ?_) (fun h19 => ?_)
    · refine a_seq ?_
      refine a_region ?_
      refine Pstep.go (st_assign rfl rfl) ?_
      refine o_anyNil 2 rfl ?_
      refine Pstep.go (st_assign rfl rfl) ?_
      refine Pstep.go (st_assign rfl rfl) ?_
      refine o_nil ?_
      refine a_ret ?_
      have e1 : 1048576 < (rdU 0 0 b).1 := by have h := h19; omega
      exact ⟨_, [], [], res_of rfl, rfl, rfl, by unfold decS; rw [if_pos e0, if_pos e1]; rfl, rfl⟩
    · have e1 : ¬ 1048576 < (rdU 0 0 b).1 := by have h := h19; omega
      refine a_seq ?_
      refine a_region ?_
      refine Pstep.go (st_move rfl rfl) ?_
      refine Pstep.go (st_move rfl rfl) ?_
      first | refine Pstep.go (st_lenMap rfl Try.underlying27 rfl) ?_ | refine Pstep.go (st_lenD rfl rfl Try.underlying27 rfl) ?_ | refine Pstep.go (st_lenO rfl Try.underlying27 rfl) ?_ | refine Pstep.go (st_lenSL rfl Try.underlying27 rfl) ?_ | refine Pstep.go (st_lenS rfl Try.underlying27 rfl) ?_
      refine Pstep.go (st_move rfl rfl) ?_
      refine Pstep.go (st_sub rfl rfl (IntWalk.i64_in _ (by omega)) rfl) ?_
      refine Pstep.go (st_conv rfl Try.underlying3 Try.underlying29 (wrapSub hf (by omega)) rfl) ?_
      first | refine Pstep.go (st_gtr rfl rfl rfl) ?_ | refine Pstep.go (st_gtrS rfl rfl rfl) ?_
      refine Pstep.go (st_assign rfl rfl) ?_
      refine o_nil ?_
      first | refine a_if rfl (fun h22 => ?_) (fun h22 => ?_) | refine a_cond rfl (fun h22 => ?_) (fun h22 => ?_)
      · refine a_seq ?_
        refine a_region ?_
        refine Pstep.go (st_assign rfl rfl) ?_
        refine o_anyNil 2 rfl ?_
        refine Pstep.go (st_assign rfl rfl) ?_
        refine Pstep.go (st_assign rfl rfl) ?_
        refine o_nil ?_
        refine a_ret ?_
        have e2 : b.length - (rdU 0 0 b).2.1 < (rdU 0 0 b).1 := by have h := h22; omega
        exact ⟨_, [], [], res_of rfl, rfl, rfl, by unfold decS; rw [if_pos e0, if_neg e1, if_pos e2]; rfl, rfl⟩
      · have e2 : ¬ b.length - (rdU 0 0 b).2.1 < (rdU 0 0 b).1 := by have h := h22; omega
        refine a_skip ?_
        refine a_seq ?_
        refine a_region ?_
        refine Pstep.go (st_move rfl rfl) ?_
        refine Pstep.go (st_move rfl rfl) ?_
        refine Pstep.go (st_conv rfl Try.underlying29 Try.underlying3 (wrapS _ (by omega)) rfl) ?_
        refine Pstep.go (st_add rfl rfl (IntWalk.i64_in _ (by omega)) rfl) ?_
        refine Pstep.go (st_assign rfl rfl) ?_
        refine o_nil ?_
        refine a_seq ?_
        refine a_region ?_
        refine Pstep.go (st_move rfl rfl) ?_
        refine Pstep.go (st_move rfl rfl) ?_
        refine Pstep.go (st_move rfl rfl) ?_
        refine Pstep.go (st_slice3M (b) ((rdU 0 0 b).2.1) ((rdU 0 0 b).2.1 + (rdU 0 0 b).1) rfl rfl rfl rfl (rfl) (by omega) (by omega) (by omega) Try.underlying27 sz5 (fun _ => rfl) rfl) ?_
        refine Pstep.go (st_callP ((clone_902 ((b.drop (rdU 0 0 b).2.1).take ((rdU 0 0 b).2.1 + (rdU 0 0 b).1 - (rdU 0 0 b).2.1)) (by rw [List.length_take, List.length_drop]; omega)).frozen (by simp)) rfl rfl) ?_
        refine Pstep.go (st_move rfl rfl) ?_
        refine Pstep.go (st_assign rfl rfl) ?_
        refine o_anyNil 2 rfl ?_
        refine Pstep.go (st_assign rfl rfl) ?_
        refine Pstep.go (st_assign rfl rfl) ?_
        refine o_nil ?_
        refine a_ret ?_
        exact ⟨_, [], [], res_of rfl, rfl, rfl, by unfold decS; rw [if_pos e0, if_neg e1, if_neg e2, Nat.add_sub_cancel_left, List.take_of_length_le (by simp)]; rfl, rfl⟩
/-- ReadSlice's own decoder: the number of elements. -/
def decN (mx : Int) (fn : Bool) (b : List UInt8) : Nat × Nat × Nat := if (rdU 0 0 b).2.2 = 0 then (if mx < 0 ∨ mx < (rdU 0 0 b).1 ∨ 1048576 < (rdU 0 0 b).1 then (0, 0, 5) else if fn then ((rdU 0 0 b).1, (rdU 0 0 b).2.1, 0) else (0, 0, 1)) else (0, 0, (rdU 0 0 b).2.2)
theorem decN_fits (mx : Int) (fn : Bool) : Fits (decN mx fn) := fun b => by
  have h := rdU_fits b
  unfold decN
  split
  · split
    · simp
    · split
      · exact h
      · simp
  · simp
theorem wrapM (m : Int) (h0 : 0 ≤ m) (h1 : m ≤ 9223372036854775807) : IntKind.u64.wrap m = m := by
  have := wrap64n m.toNat (by omega)
  rwa [Int.toNat_of_nonneg h0] at this
set_option maxHeartbeats 1000000 in
theorem sliceFn_a (mx : Int) (h1 : -9223372036854775808 ≤ mx) (h2 : mx ≤ 9223372036854775807) (f : Option FuncId) (b : List UInt8) (hb : b.length ≤ 1000000000000) : ACalls Try.prog 51 [.d (bytesD b), .ptr 920 0 0, .ptr 921 0 0] (capH mx (match f with | some g => fnD g | none => .raw .nilFunc)) fun r H' => r = .d (dec3 (decN mx f.isSome b)) ∧ H' = capH mx (match f with | some g => fnD g | none => .raw .nilFunc) := by
  have hf := rdU_fits b
  have hlt := rd_lt b
  cases f with
  | some f =>
    dsimp only
    refine a_enter Try.func51 rfl rfl Try.ntmps51 rfl rfl rfl fun F hF => ?_
    refine a_seq ?_
    refine a_region ?_
    refine Pstep.go (st_assign rfl rfl) ?_
    refine Pstep.go (st_assign rfl rfl) ?_
    refine Pstep.go (st_assign rfl rfl) ?_
    refine o_nil ?_
    refine a_seq ?_
    refine a_region ?_
    refine Pstep.go (st_move rfl rfl) ?_
    refine Pstep.go (st_callP (integer_p b (by omega)) rfl rfl) ?_
    refine Pstep.go (st_move rfl rfl) ?_
    first | refine Pstep.go (st_extractD rfl rfl rfl) ?_ | refine Pstep.go (st_extract rfl rfl rfl) ?_
    first | refine Pstep.go (st_extractD rfl rfl rfl) ?_ | refine Pstep.go (st_extract rfl rfl rfl) ?_
    first | refine Pstep.go (st_extractD rfl rfl rfl) ?_ | refine Pstep.go (st_extract rfl rfl rfl) ?_
    refine Pstep.go (st_assign rfl rfl) ?_
    refine Pstep.go (st_assign rfl rfl) ?_
    refine Pstep.go (st_assign rfl rfl) ?_
    refine o_nil ?_
    refine a_seq ?_
    refine a_block ?_
    refine a_seq ?_
    refine a_region ?_
    refine Pstep.go (st_move rfl rfl) ?_
    first | refine Pstep.go (st_neq rfl rfl rfl) ?_ | refine Pstep.go (st_neqSL rfl rfl rfl) ?_ | refine Pstep.go (st_neqS rfl rfl rfl) ?_ | refine Pstep.go (st_neqB Try.underlying38 rfl rfl rfl) ?_ | refine Pstep.go (st_neqP Try.underlying38 rfl rfl rfl) ?_ | refine Pstep.go (st_neqN Try.underlying38 rfl rfl) ?_ | refine Pstep.go (st_neqF Try.underlying38 rfl rfl rfl) ?_ | refine Pstep.go (st_neqFN Try.underlying38 rfl rfl) ?_
    refine Pstep.go (st_assign rfl rfl) ?_
    refine o_nil ?_
    first | refine a_if rfl (fun h16 => ?_) (fun h16 => ?_) | refine a_cond rfl (fun h16 => ?_) (fun h16 => ?_)
    · refine a_seq ?_
      refine a_region ?_
      refine Pstep.go (st_move rfl rfl) ?_
      refine Pstep.go (st_assign rfl rfl) ?_
      refine Pstep.go (st_assign rfl rfl) ?_
      refine Pstep.go (st_assign rfl rfl) ?_
      refine o_nil ?_
      refine a_ret ?_
      have e0 : ¬ (rdU 0 0 b).2.2 = 0 := by have h := h16; omega
      exact ⟨_, [920, 921], _, res_of rfl, rfl, rfl, by unfold decN; rw [if_neg e0]; rfl, rfl⟩
    · have e0 : (rdU 0 0 b).2.2 = 0 := by have h := h16; omega
      refine a_seq ?_
      refine a_region ?_
      first | refine Pstep.go (st_loadD1 rfl rfl on3 rfl) ?_ | refine Pstep.go (st_loadP rfl rfl rfl on3 rfl) ?_ | refine Pstep.go (st_loadR rfl rfl (rfl) rfl on3 rfl) ?_
      first | refine Pstep.go (st_lss rfl rfl rfl) ?_ | refine Pstep.go (st_lssS rfl rfl rfl) ?_
      refine Pstep.go (st_move rfl rfl) ?_
      first | refine o_splitP 23 rfl (fun h23 => ?_) (fun h23 => ?_) | refine o_splitB 23 rfl (fun h23 => ?_) (fun h23 => ?_)
      · refine o_pass rfl rfl rfl rfl ?_
        refine o_pass rfl rfl rfl rfl ?_
        first | have g0 : ¬ mx < 0 := h23 | skip
        refine o_pass rfl rfl rfl rfl ?_
        refine o_pass rfl rfl rfl rfl ?_
        refine Pstep.go (st_pickT rfl rfl rfl rfl) ?_
        refine Pstep.go (st_move rfl rfl) ?_
        refine o_pass rfl rfl rfl rfl ?_
        refine o_pass rfl rfl rfl rfl ?_
        refine Pstep.go (st_pickT rfl rfl rfl rfl) ?_
        refine Pstep.go (st_assign rfl rfl) ?_
        refine o_nil ?_
        refine a_true rfl rfl ?_
        refine a_seq ?_
        refine a_region ?_
        refine Pstep.go (st_assign rfl rfl) ?_
        refine Pstep.go (st_assign rfl rfl) ?_
        refine Pstep.go (st_assign rfl rfl) ?_
        refine o_nil ?_
        refine a_ret ?_
        have e1 : mx < 0 ∨ mx < (rdU 0 0 b).1 ∨ 1048576 < (rdU 0 0 b).1 := by first | exact .inl h23 | (have h := h29; omega) | (have h := h20; omega)
        exact ⟨_, [920, 921], _, res_of rfl, rfl, rfl, by unfold decN; rw [if_pos e0, if_pos e1]; rfl, rfl⟩
      · refine o_run rfl rfl rfl ?_
        refine Pstep.go (st_move rfl rfl) ?_
        refine o_run rfl rfl rfl ?_
        first | refine Pstep.go (st_loadD1 rfl rfl on3 rfl) ?_ | refine Pstep.go (st_loadP rfl rfl rfl on3 rfl) ?_ | refine Pstep.go (st_loadR rfl rfl (rfl) rfl on3 rfl) ?_
        first | have g0 : ¬ mx < 0 := h23 | skip
        refine o_run rfl rfl rfl ?_
        refine Pstep.go (st_conv rfl Try.underlying3 Try.underlying29 (wrapM mx (by omega) h2) rfl) ?_
        refine o_run rfl rfl rfl ?_
        first | refine Pstep.go (st_gtr rfl rfl rfl) ?_ | refine Pstep.go (st_gtrS rfl rfl rfl) ?_
        refine Pstep.go (st_pickF rfl rfl rfl rfl) ?_
        refine Pstep.go (st_move rfl rfl) ?_
        first | refine o_splitP 29 rfl (fun h29 => ?_) (fun h29 => ?_) | refine o_splitB 29 rfl (fun h29 => ?_) (fun h29 => ?_)
        · refine o_pass rfl rfl rfl rfl ?_
          refine o_pass rfl rfl rfl rfl ?_
          refine Pstep.go (st_pickT rfl rfl rfl rfl) ?_
          refine Pstep.go (st_assign rfl rfl) ?_
          refine o_nil ?_
          refine a_true rfl rfl ?_
          refine a_seq ?_
          refine a_region ?_
          refine Pstep.go (st_assign rfl rfl) ?_
          refine Pstep.go (st_assign rfl rfl) ?_
          refine Pstep.go (st_assign rfl rfl) ?_
          refine o_nil ?_
          refine a_ret ?_
          have e1 : mx < 0 ∨ mx < (rdU 0 0 b).1 ∨ 1048576 < (rdU 0 0 b).1 := by first | exact .inl h23 | (have h := h29; omega) | (have h := h20; omega)
          exact ⟨_, [920, 921], _, res_of rfl, rfl, rfl, by unfold decN; rw [if_pos e0, if_pos e1]; rfl, rfl⟩
        · refine o_run rfl rfl rfl ?_
          refine Pstep.go (st_move rfl rfl) ?_
          refine o_run rfl rfl rfl ?_
          first | refine Pstep.go (st_gtr rfl rfl rfl) ?_ | refine Pstep.go (st_gtrS rfl rfl rfl) ?_
          refine Pstep.go (st_pickF rfl rfl rfl rfl) ?_
          refine Pstep.go (st_assign rfl rfl) ?_
          refine o_nil ?_
          first | refine a_if rfl (fun h20 => ?_) (fun h20 => ?_) | refine a_cond rfl (fun h20 => ?_) (fun h20 => ?_)
          · refine a_seq ?_
            refine a_region ?_
            refine Pstep.go (st_assign rfl rfl) ?_
            refine Pstep.go (st_assign rfl rfl) ?_
            refine Pstep.go (st_assign rfl rfl) ?_
            refine o_nil ?_
            refine a_ret ?_
            have e1 : mx < 0 ∨ mx < (rdU 0 0 b).1 ∨ 1048576 < (rdU 0 0 b).1 := by first | exact .inl h23 | (have h := h29; omega) | (have h := h20; omega)
            exact ⟨_, [920, 921], _, res_of rfl, rfl, rfl, by unfold decN; rw [if_pos e0, if_pos e1]; rfl, rfl⟩
          · refine a_seq ?_
            refine a_region ?_
            first | refine Pstep.go (st_loadD1 rfl rfl on51 rfl) ?_ | refine Pstep.go (st_loadP rfl rfl rfl on51 rfl) ?_ | refine Pstep.go (st_loadR rfl rfl (rfl) rfl on51 rfl) ?_
            first | refine Pstep.go (st_eql rfl rfl rfl) ?_ | refine Pstep.go (st_eqlSL rfl rfl rfl) ?_ | refine Pstep.go (st_eqlS rfl rfl rfl) ?_ | refine Pstep.go (st_eqlB Try.underlying51 rfl rfl rfl) ?_ | refine Pstep.go (st_eqlP Try.underlying51 rfl rfl rfl) ?_ | refine Pstep.go (st_eqlN Try.underlying51 rfl rfl) ?_ | refine Pstep.go (st_eqlF Try.underlying51 rfl rfl rfl) ?_ | refine Pstep.go (st_eqlFN Try.underlying51 rfl rfl) ?_
            refine Pstep.go (st_assign rfl rfl) ?_
            refine o_nil ?_
            refine a_false rfl (rfl) ?_
            refine a_skip ?_
            refine a_seq ?_
            refine a_region ?_
            refine Pstep.go (st_move rfl rfl) ?_
            refine Pstep.go (st_move rfl rfl) ?_
            refine Pstep.go (st_assign rfl rfl) ?_
            refine Pstep.go (st_assign rfl rfl) ?_
            refine Pstep.go (st_assign rfl rfl) ?_
            refine o_nil ?_
            refine a_ret ?_
            have e1 : ¬ (mx < 0 ∨ mx < (rdU 0 0 b).1 ∨ 1048576 < (rdU 0 0 b).1) := by have h1 := h29; have h2 := h20; have h3 := h23; omega
            exact ⟨_, [920, 921], _, res_of rfl, rfl, rfl, by unfold decN; rw [if_pos e0, if_neg e1]; rfl, rfl⟩
  | none =>
    dsimp only
    refine a_enter Try.func51 rfl rfl Try.ntmps51 rfl rfl rfl fun F hF => ?_
    refine a_seq ?_
    refine a_region ?_
    refine Pstep.go (st_assign rfl rfl) ?_
    refine Pstep.go (st_assign rfl rfl) ?_
    refine Pstep.go (st_assign rfl rfl) ?_
    refine o_nil ?_
    refine a_seq ?_
    refine a_region ?_
    refine Pstep.go (st_move rfl rfl) ?_
    refine Pstep.go (st_callP (integer_p b (by omega)) rfl rfl) ?_
    refine Pstep.go (st_move rfl rfl) ?_
    first | refine Pstep.go (st_extractD rfl rfl rfl) ?_ | refine Pstep.go (st_extract rfl rfl rfl) ?_
    first | refine Pstep.go (st_extractD rfl rfl rfl) ?_ | refine Pstep.go (st_extract rfl rfl rfl) ?_
    first | refine Pstep.go (st_extractD rfl rfl rfl) ?_ | refine Pstep.go (st_extract rfl rfl rfl) ?_
    refine Pstep.go (st_assign rfl rfl) ?_
    refine Pstep.go (st_assign rfl rfl) ?_
    refine Pstep.go (st_assign rfl rfl) ?_
    refine o_nil ?_
    refine a_seq ?_
    refine a_block ?_
    refine a_seq ?_
    refine a_region ?_
    refine Pstep.go (st_move rfl rfl) ?_
    first | refine Pstep.go (st_neq rfl rfl rfl) ?_ | refine Pstep.go (st_neqSL rfl rfl rfl) ?_ | refine Pstep.go (st_neqS rfl rfl rfl) ?_ | refine Pstep.go (st_neqB Try.underlying38 rfl rfl rfl) ?_ | refine Pstep.go (st_neqP Try.underlying38 rfl rfl rfl) ?_ | refine Pstep.go (st_neqN Try.underlying38 rfl rfl) ?_ | refine Pstep.go (st_neqF Try.underlying38 rfl rfl rfl) ?_ | refine Pstep.go (st_neqFN Try.underlying38 rfl rfl) ?_
    refine Pstep.go (st_assign rfl rfl) ?_
    refine o_nil ?_
    first | refine a_if rfl (fun h16 => ?_) (fun h16 => ?_) | refine a_cond rfl (fun h16 => ?_) (fun h16 => ?_)
    · refine a_seq ?_
      refine a_region ?_
      refine Pstep.go (st_move rfl rfl) ?_
      refine Pstep.go (st_assign rfl rfl) ?_
      refine Pstep.go (st_assign rfl rfl) ?_
      refine Pstep.go (st_assign rfl rfl) ?_
      refine o_nil ?_
      refine a_ret ?_
      have e0 : ¬ (rdU 0 0 b).2.2 = 0 := by have h := h16; omega
      exact ⟨_, [920, 921], _, res_of rfl, rfl, rfl, by unfold decN; rw [if_neg e0]; rfl, rfl⟩
    · have e0 : (rdU 0 0 b).2.2 = 0 := by have h := h16; omega
      refine a_seq ?_
      refine a_region ?_
      first | refine Pstep.go (st_loadD1 rfl rfl on3 rfl) ?_ | refine Pstep.go (st_loadP rfl rfl rfl on3 rfl) ?_ | refine Pstep.go (st_loadR rfl rfl (rfl) rfl on3 rfl) ?_
      first | refine Pstep.go (st_lss rfl rfl rfl) ?_ | refine Pstep.go (st_lssS rfl rfl rfl) ?_
      refine Pstep.go (st_move rfl rfl) ?_
      first | refine o_splitP 23 rfl (fun h23 => ?_) (fun h23 => ?_) | refine o_splitB 23 rfl (fun h23 => ?_) (fun h23 => ?_)
      · refine o_pass rfl rfl rfl rfl ?_
        refine o_pass rfl rfl rfl rfl ?_
        first | have g0 : ¬ mx < 0 := h23 | skip
        refine o_pass rfl rfl rfl rfl ?_
        refine o_pass rfl rfl rfl rfl ?_
        refine Pstep.go (st_pickT rfl rfl rfl rfl) ?_
        refine Pstep.go (st_move rfl rfl) ?_
        refine o_pass rfl rfl rfl rfl ?_
        refine o_pass rfl rfl rfl rfl ?_
        refine Pstep.go (st_pickT rfl rfl rfl rfl) ?_
        refine Pstep.go (st_assign rfl rfl) ?_
        refine o_nil ?_
        refine a_true rfl rfl ?_
        refine a_seq ?_
        refine a_region ?_
        refine Pstep.go (st_assign rfl rfl) ?_
        refine Pstep.go (st_assign rfl rfl) ?_
        refine Pstep.go (st_assign rfl rfl) ?_
        refine o_nil ?_
        refine a_ret ?_
        have e1 : mx < 0 ∨ mx < (rdU 0 0 b).1 ∨ 1048576 < (rdU 0 0 b).1 := by first | exact .inl h23 | (have h := h29; omega) | (have h := h20; omega)
        exact ⟨_, [920, 921], _, res_of rfl, rfl, rfl, by unfold decN; rw [if_pos e0, if_pos e1]; rfl, rfl⟩
      · refine o_run rfl rfl rfl ?_
        refine Pstep.go (st_move rfl rfl) ?_
        refine o_run rfl rfl rfl ?_
        first | refine Pstep.go (st_loadD1 rfl rfl on3 rfl) ?_ | refine Pstep.go (st_loadP rfl rfl rfl on3 rfl) ?_ | refine Pstep.go (st_loadR rfl rfl (rfl) rfl on3 rfl) ?_
        first | have g0 : ¬ mx < 0 := h23 | skip
        refine o_run rfl rfl rfl ?_
        refine Pstep.go (st_conv rfl Try.underlying3 Try.underlying29 (wrapM mx (by omega) h2) rfl) ?_
        refine o_run rfl rfl rfl ?_
        first | refine Pstep.go (st_gtr rfl rfl rfl) ?_ | refine Pstep.go (st_gtrS rfl rfl rfl) ?_
        refine Pstep.go (st_pickF rfl rfl rfl rfl) ?_
        refine Pstep.go (st_move rfl rfl) ?_
        first | refine o_splitP 29 rfl (fun h29 => ?_) (fun h29 => ?_) | refine o_splitB 29 rfl (fun h29 => ?_) (fun h29 => ?_)
        · refine o_pass rfl rfl rfl rfl ?_
          refine o_pass rfl rfl rfl rfl ?_
          refine Pstep.go (st_pickT rfl rfl rfl rfl) ?_
          refine Pstep.go (st_assign rfl rfl) ?_
          refine o_nil ?_
          refine a_true rfl rfl ?_
          refine a_seq ?_
          refine a_region ?_
          refine Pstep.go (st_assign rfl rfl) ?_
          refine Pstep.go (st_assign rfl rfl) ?_
          refine Pstep.go (st_assign rfl rfl) ?_
          refine o_nil ?_
          refine a_ret ?_
          have e1 : mx < 0 ∨ mx < (rdU 0 0 b).1 ∨ 1048576 < (rdU 0 0 b).1 := by first | exact .inl h23 | (have h := h29; omega) | (have h := h20; omega)
          exact ⟨_, [920, 921], _, res_of rfl, rfl, rfl, by unfold decN; rw [if_pos e0, if_pos e1]; rfl, rfl⟩
        · refine o_run rfl rfl rfl ?_
          refine Pstep.go (st_move rfl rfl) ?_
          refine o_run rfl rfl rfl ?_
          first | refine Pstep.go (st_gtr rfl rfl rfl) ?_ | refine Pstep.go (st_gtrS rfl rfl rfl) ?_
          refine Pstep.go (st_pickF rfl rfl rfl rfl) ?_
          refine Pstep.go (st_assign rfl rfl) ?_
          refine o_nil ?_
          first | refine a_if rfl (fun h20 => ?_) (fun h20 => ?_) | refine a_cond rfl (fun h20 => ?_) (fun h20 => ?_)
          · refine a_seq ?_
            refine a_region ?_
            refine Pstep.go (st_assign rfl rfl) ?_
            refine Pstep.go (st_assign rfl rfl) ?_
            refine Pstep.go (st_assign rfl rfl) ?_
            refine o_nil ?_
            refine a_ret ?_
            have e1 : mx < 0 ∨ mx < (rdU 0 0 b).1 ∨ 1048576 < (rdU 0 0 b).1 := by first | exact .inl h23 | (have h := h29; omega) | (have h := h20; omega)
            exact ⟨_, [920, 921], _, res_of rfl, rfl, rfl, by unfold decN; rw [if_pos e0, if_pos e1]; rfl, rfl⟩
          · refine a_seq ?_
            refine a_region ?_
            first | refine Pstep.go (st_loadD1 rfl rfl on51 rfl) ?_ | refine Pstep.go (st_loadP rfl rfl rfl on51 rfl) ?_ | refine Pstep.go (st_loadR rfl rfl (rfl) rfl on51 rfl) ?_
            first | refine Pstep.go (st_eql rfl rfl rfl) ?_ | refine Pstep.go (st_eqlSL rfl rfl rfl) ?_ | refine Pstep.go (st_eqlS rfl rfl rfl) ?_ | refine Pstep.go (st_eqlB Try.underlying51 rfl rfl rfl) ?_ | refine Pstep.go (st_eqlP Try.underlying51 rfl rfl rfl) ?_ | refine Pstep.go (st_eqlN Try.underlying51 rfl rfl) ?_ | refine Pstep.go (st_eqlF Try.underlying51 rfl rfl rfl) ?_ | refine Pstep.go (st_eqlFN Try.underlying51 rfl rfl) ?_
            refine Pstep.go (st_assign rfl rfl) ?_
            refine o_nil ?_
            refine a_true rfl (rfl) ?_
            refine a_seq ?_
            refine a_region ?_
            refine Pstep.go (st_assign rfl rfl) ?_
            refine Pstep.go (st_assign rfl rfl) ?_
            refine Pstep.go (st_assign rfl rfl) ?_
            refine o_nil ?_
            refine a_ret ?_
            have e1 : ¬ (mx < 0 ∨ mx < (rdU 0 0 b).1 ∨ 1048576 < (rdU 0 0 b).1) := by have h1 := h29; have h2 := h20; have h3 := h23; omega
            exact ⟨_, [920, 921], _, res_of rfl, rfl, rfl, by unfold decN; rw [if_pos e0, if_neg e1]; rfl, rfl⟩
end Go.Proofs.Ytjbghmlofjkcfaa
