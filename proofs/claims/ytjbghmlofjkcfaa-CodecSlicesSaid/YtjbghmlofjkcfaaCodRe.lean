/- The walk of the reference's Read. -/
import Derived.Test.YtjbghmlofjkcfaaCodRd
namespace Go.Proofs.Ytjbghmlofjkcfaa
open Go.RowKit
theorem quon2 (a : Nat) (h : a < 18446744073709551616) : IntKind.u64.wrap ((a : Int).tdiv 2) = ((a / 2 : Nat) : Int) := by rw [show (a : Int).tdiv 2 = ((a / 2 : Nat) : Int) from rfl, wrap64n _ (by omega)]
theorem aggNilI {w : World} {O : Nat → Prop} {a b d e : D} {i i' : Int} {v : Value} (hi : i = i') (h : RepD w O (.agg [a, b, .raw (.int .i64 i), d, e, .sl (some true) []]) v) : RepD w O (.agg [a, b, .raw (.int .i64 i'), d, e, .sl none []]) v := by subst hi; exact aggNil h
theorem uz1' {u : Nat} {i : Int} (h : ((u % 2 : Nat) : Int) = 1) (hi : i = -((u / 2 : Nat) : Int) - 1) : i = unzz u := by rw [uz1 h, hi]
theorem uz0' {u : Nat} {i : Int} (h : ¬ ((u % 2 : Nat) : Int) = 1) (hi : i = ((u / 2 : Nat) : Int)) : i = unzz u := by rw [uz0 h, hi]
theorem consOf {b : List UInt8} (h : ¬ b = []) : ∃ c r, b = c :: r := by cases b with | nil => exact absurd rfl h | cons c r => exact ⟨c, r, rfl⟩
theorem headB {b r : List UInt8} {c : UInt8} (h : b = c :: r) : (b.map byteD)[0]? = some (byteD c) := by rw [h]; rfl

set_option maxHeartbeats 2000000 in
theorem read_p (mx k : Int) (h1 : -9223372036854775808 ≤ mx) (h2 : mx ≤ 9223372036854775807) (hk0 : 0 ≤ k) (hk4 : k ≤ 4) (b : List UInt8) (hb : b.length ≤ 1000000000) : PCalls Try.prog 37 [.d (.raw (.int .i64 k)), .d (bytesD b), .d (.raw (.int .i64 mx))] (dec3V (decV mx k b)) := by
  have hf := rdU_fits b
  have hlt := rd_lt b
  refine a_enter Try.func37 rfl rfl Try.ntmps37 rfl rfl rfl fun F hF => ?_
  refine a_seq ?_
  refine a_region ?_
  refine Estep.go (st_alloc 1 zl32 rfl rfl rfl rfl) ?_
  refine Pstep.go (st_assign rfl rfl) ?_
  refine Pstep.go (st_assign rfl rfl) ?_
  refine o_nil ?_
  refine a_seq ?_
  refine a_region ?_
  refine Pstep.go (st_move rfl rfl) ?_
  refine Pstep.go (st_build zl32 pl32 rfl rfl rfl) ?_
  refine Estep.go (st_alloc 2 zl32 rfl rfl rfl rfl) ?_
  refine Estep.go (st_storeP rfl rfl rfl rfl rfl rfl rfl sz32) ?_
  refine o_nil ?_
  refine a_seq ?_
  refine a_seq ?_
  refine a_region ?_
  refine Pstep.go (st_move rfl rfl) ?_
  refine o_nil ?_
  refine a_block ?_
  refine a_seq ?_
  refine a_region ?_
  first | refine Pstep.go (st_eql rfl rfl rfl) ?_ | refine Pstep.go (st_eqlSL rfl rfl rfl) ?_ | refine Pstep.go (st_eqlS rfl rfl rfl) ?_ | refine Pstep.go (st_eqlB Try.underlying3 rfl rfl rfl) ?_ | refine Pstep.go (st_eqlP Try.underlying3 rfl rfl rfl) ?_ | refine Pstep.go (st_eqlN Try.underlying3 rfl rfl) ?_ | refine Pstep.go (st_eqlF Try.underlying3 rfl rfl rfl) ?_ | refine Pstep.go (st_eqlFN Try.underlying3 rfl rfl) ?_
  refine Pstep.go (st_assign rfl rfl) ?_
  refine o_nil ?_
  first | refine a_if rfl (fun h29 => ?_) (fun h29 => ?_) | refine a_cond rfl (fun h29 => ?_) (fun h29 => ?_)
  · refine a_seq ?_
    refine a_region ?_
    refine Pstep.go (st_move rfl rfl) ?_
    refine Pstep.go (st_callP (readUint_p b (by omega)) rfl rfl) ?_
    refine Pstep.go (st_move rfl rfl) ?_
    first | refine Pstep.go (st_extractD rfl rfl rfl) ?_ | refine Pstep.go (st_extract rfl rfl rfl) ?_
    first | refine Pstep.go (st_extractD rfl rfl rfl) ?_ | refine Pstep.go (st_extract rfl rfl rfl) ?_
    first | refine Pstep.go (st_extractD rfl rfl rfl) ?_ | refine Pstep.go (st_extract rfl rfl rfl) ?_
    refine Pstep.go (st_assign rfl rfl) ?_
    refine Pstep.go (st_assign rfl rfl) ?_
    refine Pstep.go (st_assign rfl rfl) ?_
    refine o_nil ?_
    refine a_seq ?_
    refine a_region ?_
    refine Pstep.go (st_move rfl rfl) ?_
    first | refine Pstep.go (st_fieldP rfl fi32_1 rfl rfl rfl) ?_ | refine Pstep.go (st_fieldF1 rfl fi32_1 rfl rfl rfl) ?_ | refine Pstep.go (st_fieldFS rfl fi32_1 rfl rfl rfl) ?_ | refine Pstep.go (st_fieldR rfl fi32_1 rfl rfl rfl) ?_
    refine Estep.go (st_storeP rfl rfl rfl rfl rfl rfl rfl sz29) ?_
    refine o_nil ?_
    refine a_seq ?_
    refine a_region ?_
    first | refine Pstep.go (st_loadDS rfl rfl rw32 rfl) ?_ | refine Pstep.go (st_loadPS rfl rfl rw32 rfl rfl rfl) ?_ | refine Pstep.go (st_loadRS rfl rfl (rfl) rfl rw32 rfl) ?_
    refine o_weakD 39 (.agg [.raw (.int .i64 k), .raw (.int .u64 ((rdU 0 0 b).1 : Int)), .raw (.int .i64 0), .raw (.bool false), .raw (.string ⟨#[]⟩), .sl none []]) rfl (fun _ _ _ h => aggNil h) ?_
    refine Pstep.go (st_move rfl rfl) ?_
    refine Pstep.go (st_move rfl rfl) ?_
    refine Estep.go (st_storeP rfl rfl rfl rfl rfl rfl rfl sz32) ?_
    refine Pstep.go (st_assign rfl rfl) ?_
    refine Pstep.go (st_assign rfl rfl) ?_
    refine o_nil ?_
    refine a_ret ?_
    exact ⟨_, [], [], ⟨_, .cons (.cellS rfl rfl rw32 rfl rfl) (.cons (.tmp rfl) (.cons (.tmp rfl) .nil)), rfl⟩, rfl, rfl, by unfold decV; rw [if_pos h29, h29] <;> rfl, rfl⟩
  · refine a_seq ?_
    refine a_region ?_
    first | refine Pstep.go (st_eql rfl rfl rfl) ?_ | refine Pstep.go (st_eqlSL rfl rfl rfl) ?_ | refine Pstep.go (st_eqlS rfl rfl rfl) ?_ | refine Pstep.go (st_eqlB Try.underlying3 rfl rfl rfl) ?_ | refine Pstep.go (st_eqlP Try.underlying3 rfl rfl rfl) ?_ | refine Pstep.go (st_eqlN Try.underlying3 rfl rfl) ?_ | refine Pstep.go (st_eqlF Try.underlying3 rfl rfl rfl) ?_ | refine Pstep.go (st_eqlFN Try.underlying3 rfl rfl) ?_
    refine Pstep.go (st_assign rfl rfl) ?_
    refine o_nil ?_
    first | refine a_if rfl (fun h42 => ?_) (fun h42 => ?_) | refine a_cond rfl (fun h42 => ?_) (fun h42 => ?_)
    · refine a_seq ?_
      refine a_region ?_
      refine Pstep.go (st_move rfl rfl) ?_
      refine Pstep.go (st_callP (readUint_p b (by omega)) rfl rfl) ?_
      refine Pstep.go (st_move rfl rfl) ?_
      first | refine Pstep.go (st_extractD rfl rfl rfl) ?_ | refine Pstep.go (st_extract rfl rfl rfl) ?_
      first | refine Pstep.go (st_extractD rfl rfl rfl) ?_ | refine Pstep.go (st_extract rfl rfl rfl) ?_
      first | refine Pstep.go (st_extractD rfl rfl rfl) ?_ | refine Pstep.go (st_extract rfl rfl rfl) ?_
      refine Pstep.go (st_assign rfl rfl) ?_
      refine Pstep.go (st_assign rfl rfl) ?_
      refine Pstep.go (st_assign rfl rfl) ?_
      refine o_nil ?_
      refine a_seq ?_
      refine a_region ?_
      refine Pstep.go (st_move rfl rfl) ?_
      refine Pstep.go (st_quo rfl rfl (by omega) (quon2 _ hlt) rfl) ?_
      refine Pstep.go (st_conv rfl Try.underlying29 Try.underlying2 (wrapS _ (by omega)) rfl) ?_
      first | refine Pstep.go (st_fieldP rfl fi32_2 rfl rfl rfl) ?_ | refine Pstep.go (st_fieldF1 rfl fi32_2 rfl rfl rfl) ?_ | refine Pstep.go (st_fieldFS rfl fi32_2 rfl rfl rfl) ?_ | refine Pstep.go (st_fieldR rfl fi32_2 rfl rfl rfl) ?_
      refine Estep.go (st_storeP rfl rfl rfl rfl rfl rfl rfl sz2) ?_
      refine o_nil ?_
      refine a_seq ?_
      refine a_seq ?_
      refine a_region ?_
      refine Pstep.go (st_move rfl rfl) ?_
      refine Pstep.go (st_rem rfl rfl (by omega) (show (((rdU 0 0 b).1 : Nat) : Int).tmod 2 = (((rdU 0 0 b).1 % 2 : Nat) : Int) from rfl) rfl) ?_
      first | refine Pstep.go (st_eql rfl rfl rfl) ?_ | refine Pstep.go (st_eqlSL rfl rfl rfl) ?_ | refine Pstep.go (st_eqlS rfl rfl rfl) ?_ | refine Pstep.go (st_eqlB Try.underlying29 rfl rfl rfl) ?_ | refine Pstep.go (st_eqlP Try.underlying29 rfl rfl rfl) ?_ | refine Pstep.go (st_eqlN Try.underlying29 rfl rfl) ?_ | refine Pstep.go (st_eqlF Try.underlying29 rfl rfl rfl) ?_ | refine Pstep.go (st_eqlFN Try.underlying29 rfl rfl) ?_
      refine o_nil ?_
      first | refine a_if rfl (fun h56 => ?_) (fun h56 => ?_) | refine a_cond rfl (fun h56 => ?_) (fun h56 => ?_)
      · refine a_region ?_
        first | refine Pstep.go (st_fieldP rfl fi32_2 rfl rfl rfl) ?_ | refine Pstep.go (st_fieldF1 rfl fi32_2 rfl rfl rfl) ?_ | refine Pstep.go (st_fieldFS rfl fi32_2 rfl rfl rfl) ?_ | refine Pstep.go (st_fieldR rfl fi32_2 rfl rfl rfl) ?_
        first | refine Pstep.go (st_loadD1 rfl rfl on2 rfl) ?_ | refine Pstep.go (st_loadP rfl rfl rfl on2 rfl) ?_ | refine Pstep.go (st_loadR rfl rfl (rfl) rfl on2 rfl) ?_
        refine Pstep.go (st_neg rfl (IntWalk.i64_in _ (by omega)) rfl) ?_
        refine Pstep.go (st_sub rfl rfl (IntWalk.i64_in _ (by omega)) rfl) ?_
        first | refine Pstep.go (st_fieldP rfl fi32_2 rfl rfl rfl) ?_ | refine Pstep.go (st_fieldF1 rfl fi32_2 rfl rfl rfl) ?_ | refine Pstep.go (st_fieldFS rfl fi32_2 rfl rfl rfl) ?_ | refine Pstep.go (st_fieldR rfl fi32_2 rfl rfl rfl) ?_
        refine Estep.go (st_storeP rfl rfl rfl rfl rfl rfl rfl sz2) ?_
        refine o_nil ?_
        refine a_seq ?_
        refine a_region ?_
        first | refine Pstep.go (st_loadDS rfl rfl rw32 rfl) ?_ | refine Pstep.go (st_loadPS rfl rfl rw32 rfl rfl rfl) ?_ | refine Pstep.go (st_loadRS rfl rfl (rfl) rfl rw32 rfl) ?_
        first | refine o_weakD 62 (.agg [.raw (.int .i64 k), .raw (.int .u64 0), .raw (.int .i64 (unzz (rdU 0 0 b).1)), .raw (.bool false), .raw (.string ⟨#[]⟩), .sl none []]) rfl (fun _ _ _ h => aggNilI (uz1' h56 (by omega)) h) ?_ | refine o_weakD 62 (.agg [.raw (.int .i64 k), .raw (.int .u64 0), .raw (.int .i64 (unzz (rdU 0 0 b).1)), .raw (.bool false), .raw (.string ⟨#[]⟩), .sl none []]) rfl (fun _ _ _ h => aggNilI (uz0' h56 rfl) h) ?_
        refine Pstep.go (st_move rfl rfl) ?_
        refine Pstep.go (st_move rfl rfl) ?_
        refine Estep.go (st_storeP rfl rfl rfl rfl rfl rfl rfl sz32) ?_
        refine Pstep.go (st_assign rfl rfl) ?_
        refine Pstep.go (st_assign rfl rfl) ?_
        refine o_nil ?_
        refine a_ret ?_
        exact ⟨_, [], [], ⟨_, .cons (.cellS rfl rfl rw32 rfl rfl) (.cons (.tmp rfl) (.cons (.tmp rfl) .nil)), rfl⟩, rfl, rfl, by unfold decV; rw [if_neg h29, if_pos h42, h42] <;> rfl, rfl⟩
      · refine a_skip ?_
        refine a_seq ?_
        refine a_region ?_
        first | refine Pstep.go (st_loadDS rfl rfl rw32 rfl) ?_ | refine Pstep.go (st_loadPS rfl rfl rw32 rfl rfl rfl) ?_ | refine Pstep.go (st_loadRS rfl rfl (rfl) rfl rw32 rfl) ?_
        first | refine o_weakD 62 (.agg [.raw (.int .i64 k), .raw (.int .u64 0), .raw (.int .i64 (unzz (rdU 0 0 b).1)), .raw (.bool false), .raw (.string ⟨#[]⟩), .sl none []]) rfl (fun _ _ _ h => aggNilI (uz1' h56 (by omega)) h) ?_ | refine o_weakD 62 (.agg [.raw (.int .i64 k), .raw (.int .u64 0), .raw (.int .i64 (unzz (rdU 0 0 b).1)), .raw (.bool false), .raw (.string ⟨#[]⟩), .sl none []]) rfl (fun _ _ _ h => aggNilI (uz0' h56 rfl) h) ?_
        refine Pstep.go (st_move rfl rfl) ?_
        refine Pstep.go (st_move rfl rfl) ?_
        refine Estep.go (st_storeP rfl rfl rfl rfl rfl rfl rfl sz32) ?_
        refine Pstep.go (st_assign rfl rfl) ?_
        refine Pstep.go (st_assign rfl rfl) ?_
        refine o_nil ?_
        refine a_ret ?_
        exact ⟨_, [], [], ⟨_, .cons (.cellS rfl rfl rw32 rfl rfl) (.cons (.tmp rfl) (.cons (.tmp rfl) .nil)), rfl⟩, rfl, rfl, by unfold decV; rw [if_neg h29, if_pos h42, h42] <;> rfl, rfl⟩
    · refine a_seq ?_
      refine a_region ?_
      first | refine Pstep.go (st_eql rfl rfl rfl) ?_ | refine Pstep.go (st_eqlSL rfl rfl rfl) ?_ | refine Pstep.go (st_eqlS rfl rfl rfl) ?_ | refine Pstep.go (st_eqlB Try.underlying3 rfl rfl rfl) ?_ | refine Pstep.go (st_eqlP Try.underlying3 rfl rfl rfl) ?_ | refine Pstep.go (st_eqlN Try.underlying3 rfl rfl) ?_ | refine Pstep.go (st_eqlF Try.underlying3 rfl rfl rfl) ?_ | refine Pstep.go (st_eqlFN Try.underlying3 rfl rfl) ?_
      refine Pstep.go (st_assign rfl rfl) ?_
      refine o_nil ?_
      first | refine a_if rfl (fun h65 => ?_) (fun h65 => ?_) | refine a_cond rfl (fun h65 => ?_) (fun h65 => ?_)
      · refine a_seq ?_
        refine a_seq ?_
        refine a_region ?_
        refine Pstep.go (st_move rfl rfl) ?_
        first | refine Pstep.go (st_lenMap rfl Try.underlying27 rfl) ?_ | refine Pstep.go (st_lenD rfl rfl Try.underlying27 rfl) ?_ | refine Pstep.go (st_lenO rfl Try.underlying27 rfl) ?_ | refine Pstep.go (st_lenSL rfl Try.underlying27 rfl) ?_ | refine Pstep.go (st_lenS rfl Try.underlying27 rfl) ?_
        first | refine Pstep.go (st_eql rfl rfl rfl) ?_ | refine Pstep.go (st_eqlSL rfl rfl rfl) ?_ | refine Pstep.go (st_eqlS rfl rfl rfl) ?_ | refine Pstep.go (st_eqlB Try.underlying3 rfl rfl rfl) ?_ | refine Pstep.go (st_eqlP Try.underlying3 rfl rfl rfl) ?_ | refine Pstep.go (st_eqlN Try.underlying3 rfl rfl) ?_ | refine Pstep.go (st_eqlF Try.underlying3 rfl rfl rfl) ?_ | refine Pstep.go (st_eqlFN Try.underlying3 rfl rfl) ?_
        refine o_nil ?_
        first | refine a_if rfl (fun h69 => ?_) (fun h69 => ?_) | refine a_cond rfl (fun h69 => ?_) (fun h69 => ?_)
        · refine a_seq ?_
          refine a_region ?_
          first | refine Pstep.go (st_loadDS rfl rfl rw32 rfl) ?_ | refine Pstep.go (st_loadPS rfl rfl rw32 rfl rfl rfl) ?_ | refine Pstep.go (st_loadRS rfl rfl (rfl) rfl rw32 rfl) ?_
          refine o_weakD 70 (.agg [.raw (.int .i64 k), .raw (.int .u64 0), .raw (.int .i64 0), .raw (.bool false), .raw (.string ⟨#[]⟩), .sl none []]) rfl (fun _ _ _ h => aggNil h) ?_
          refine Estep.go (st_storeP rfl rfl rfl rfl rfl rfl rfl sz32) ?_
          refine Pstep.go (st_assign rfl rfl) ?_
          refine Pstep.go (st_assign rfl rfl) ?_
          refine o_nil ?_
          refine a_ret ?_
          have hbn : b = [] := List.eq_nil_of_length_eq_zero (by have h := h69; omega)
          exact ⟨_, [], [], ⟨_, .cons (.cellS rfl rfl rw32 rfl rfl) (.cons (.tmp rfl) (.cons (.tmp rfl) .nil)), rfl⟩, rfl, rfl, by unfold decV; rw [if_neg h29, if_neg h42, if_pos h65, h65, hbn] <;> rfl, rfl⟩
        · refine a_skip ?_
          refine a_seq ?_
          refine a_seq ?_
          have hbx := consOf (b := b) (fun e => h69 (by rw [e]; rfl))
          obtain ⟨c, r, hbc⟩ := hbx
          refine a_region ?_
          refine Pstep.go (st_move rfl rfl) ?_
          first | refine Pstep.go (st_indexD (0) rfl rfl (rfl) (headB hbc) Try.underlying27 rfl sz5 rfl) ?_ | refine Pstep.go (st_indexO (0) rfl rfl (rfl) (headB hbc) rfl Try.underlying27 sz5 rfl) ?_
          first | refine Pstep.go (st_loadD1 rfl rfl on5 rfl) ?_ | refine Pstep.go (st_loadP rfl rfl rfl on5 rfl) ?_ | refine Pstep.go (st_loadR rfl rfl (rfl) rfl on5 rfl) ?_
          first | refine Pstep.go (st_gtr rfl rfl rfl) ?_ | refine Pstep.go (st_gtrS rfl rfl rfl) ?_
          refine o_nil ?_
          first | refine a_if rfl (fun h74 => ?_) (fun h74 => ?_) | refine a_cond rfl (fun h74 => ?_) (fun h74 => ?_)
          · refine a_seq ?_
            refine a_region ?_
            first | refine Pstep.go (st_loadDS rfl rfl rw32 rfl) ?_ | refine Pstep.go (st_loadPS rfl rfl rw32 rfl rfl rfl) ?_ | refine Pstep.go (st_loadRS rfl rfl (rfl) rfl rw32 rfl) ?_
            refine o_weakD 75 (.agg [.raw (.int .i64 k), .raw (.int .u64 0), .raw (.int .i64 0), .raw (.bool false), .raw (.string ⟨#[]⟩), .sl none []]) rfl (fun _ _ _ h => aggNil h) ?_
            refine Estep.go (st_storeP rfl rfl rfl rfl rfl rfl rfl sz32) ?_
            refine Pstep.go (st_assign rfl rfl) ?_
            refine Pstep.go (st_assign rfl rfl) ?_
            refine o_nil ?_
            refine a_ret ?_
            have g1 : 1 < c.toNat := by have h := h74; omega
            exact ⟨_, [], [], ⟨_, .cons (.cellS rfl rfl rw32 rfl rfl) (.cons (.tmp rfl) (.cons (.tmp rfl) .nil)), rfl⟩, rfl, rfl, by unfold decV; rw [if_neg h29, if_neg h42, if_pos h65, h65, hbc]; simp only [decB, if_pos g1]; rfl, rfl⟩
          · refine a_skip ?_
            refine a_seq ?_
            refine a_region ?_
            refine Pstep.go (st_move rfl rfl) ?_
            first | refine Pstep.go (st_indexD (0) rfl rfl (rfl) (headB hbc) Try.underlying27 rfl sz5 rfl) ?_ | refine Pstep.go (st_indexO (0) rfl rfl (rfl) (headB hbc) rfl Try.underlying27 sz5 rfl) ?_
            first | refine Pstep.go (st_loadD1 rfl rfl on5 rfl) ?_ | refine Pstep.go (st_loadP rfl rfl rfl on5 rfl) ?_ | refine Pstep.go (st_loadR rfl rfl (rfl) rfl on5 rfl) ?_
            first | refine Pstep.go (st_eql rfl rfl rfl) ?_ | refine Pstep.go (st_eqlSL rfl rfl rfl) ?_ | refine Pstep.go (st_eqlS rfl rfl rfl) ?_ | refine Pstep.go (st_eqlB Try.underlying5 rfl rfl rfl) ?_ | refine Pstep.go (st_eqlP Try.underlying5 rfl rfl rfl) ?_ | refine Pstep.go (st_eqlN Try.underlying5 rfl rfl) ?_ | refine Pstep.go (st_eqlF Try.underlying5 rfl rfl rfl) ?_ | refine Pstep.go (st_eqlFN Try.underlying5 rfl rfl) ?_
            refine o_weakD 79 (.raw (.bool (decide (c.toNat = 1)))) rfl (fun _ _ _ h => by rw [show decide (c.toNat = 1) = decide ((c.toNat : Int) = 1) by rw [decide_eq_decide]; omega]; exact h) ?_
            first | refine Pstep.go (st_fieldP rfl fi32_3 rfl rfl rfl) ?_ | refine Pstep.go (st_fieldF1 rfl fi32_3 rfl rfl rfl) ?_ | refine Pstep.go (st_fieldFS rfl fi32_3 rfl rfl rfl) ?_ | refine Pstep.go (st_fieldR rfl fi32_3 rfl rfl rfl) ?_
            refine Estep.go (st_storeP rfl rfl rfl rfl rfl rfl rfl sz4) ?_
            refine o_nil ?_
            refine a_seq ?_
            refine a_region ?_
            first | refine Pstep.go (st_loadDS rfl rfl rw32 rfl) ?_ | refine Pstep.go (st_loadPS rfl rfl rw32 rfl rfl rfl) ?_ | refine Pstep.go (st_loadRS rfl rfl (rfl) rfl rw32 rfl) ?_
            refine o_weakD 81 (.agg [.raw (.int .i64 k), .raw (.int .u64 0), .raw (.int .i64 0), .raw (.bool (decide (c.toNat = 1))), .raw (.string ⟨#[]⟩), .sl none []]) rfl (fun _ _ _ h => aggNil h) ?_
            refine Estep.go (st_storeP rfl rfl rfl rfl rfl rfl rfl sz32) ?_
            refine Pstep.go (st_assign rfl rfl) ?_
            refine Pstep.go (st_assign rfl rfl) ?_
            refine o_nil ?_
            refine a_ret ?_
            have g1 : ¬ 1 < c.toNat := by have h := h74; omega
            exact ⟨_, [], [], ⟨_, .cons (.cellS rfl rfl rw32 rfl rfl) (.cons (.tmp rfl) (.cons (.tmp rfl) .nil)), rfl⟩, rfl, rfl, by unfold decV; rw [if_neg h29, if_neg h42, if_pos h65, h65, hbc]; simp only [decB, if_neg g1]; rfl, rfl⟩
      · refine a_seq ?_
        refine a_region ?_
        first | refine Pstep.go (st_eql rfl rfl rfl) ?_ | refine Pstep.go (st_eqlSL rfl rfl rfl) ?_ | refine Pstep.go (st_eqlS rfl rfl rfl) ?_ | refine Pstep.go (st_eqlB Try.underlying3 rfl rfl rfl) ?_ | refine Pstep.go (st_eqlP Try.underlying3 rfl rfl rfl) ?_ | refine Pstep.go (st_eqlN Try.underlying3 rfl rfl) ?_ | refine Pstep.go (st_eqlF Try.underlying3 rfl rfl rfl) ?_ | refine Pstep.go (st_eqlFN Try.underlying3 rfl rfl) ?_
        refine Pstep.go (st_assign rfl rfl) ?_
        refine o_nil ?_
        first | refine a_if rfl (fun h82 => ?_) (fun h82 => ?_) | refine a_cond rfl (fun h82 => ?_) (fun h82 => ?_)
        · refine a_seq ?_
          refine a_region ?_
          refine Pstep.go (st_move rfl rfl) ?_
          refine Pstep.go (st_callP (readString_p b (by omega)) rfl rfl) ?_
          refine Pstep.go (st_move rfl rfl) ?_
          first | refine Pstep.go (st_extractD rfl rfl rfl) ?_ | refine Pstep.go (st_extract rfl rfl rfl) ?_
          first | refine Pstep.go (st_extractD rfl rfl rfl) ?_ | refine Pstep.go (st_extract rfl rfl rfl) ?_
          first | refine Pstep.go (st_extractD rfl rfl rfl) ?_ | refine Pstep.go (st_extract rfl rfl rfl) ?_
          refine Pstep.go (st_assign rfl rfl) ?_
          refine Pstep.go (st_assign rfl rfl) ?_
          refine Pstep.go (st_assign rfl rfl) ?_
          refine o_nil ?_
          refine a_seq ?_
          refine a_region ?_
          refine Pstep.go (st_move rfl rfl) ?_
          first | refine Pstep.go (st_fieldP rfl fi32_4 rfl rfl rfl) ?_ | refine Pstep.go (st_fieldF1 rfl fi32_4 rfl rfl rfl) ?_ | refine Pstep.go (st_fieldFS rfl fi32_4 rfl rfl rfl) ?_ | refine Pstep.go (st_fieldR rfl fi32_4 rfl rfl rfl) ?_
          refine Estep.go (st_storeP rfl rfl rfl rfl rfl rfl rfl sz9) ?_
          refine o_nil ?_
          refine a_seq ?_
          refine a_region ?_
          first | refine Pstep.go (st_loadDS rfl rfl rw32 rfl) ?_ | refine Pstep.go (st_loadPS rfl rfl rw32 rfl rfl rfl) ?_ | refine Pstep.go (st_loadRS rfl rfl (rfl) rfl rw32 rfl) ?_
          refine o_weakD 92 (.agg [.raw (.int .i64 k), .raw (.int .u64 0), .raw (.int .i64 0), .raw (.bool false), strD (decS b).1, .sl none []]) rfl (fun _ _ _ h => aggNil h) ?_
          refine Pstep.go (st_move rfl rfl) ?_
          refine Pstep.go (st_move rfl rfl) ?_
          refine Estep.go (st_storeP rfl rfl rfl rfl rfl rfl rfl sz32) ?_
          refine Pstep.go (st_assign rfl rfl) ?_
          refine Pstep.go (st_assign rfl rfl) ?_
          refine o_nil ?_
          refine a_ret ?_
          exact ⟨_, [], [], ⟨_, .cons (.cellS rfl rfl rw32 rfl rfl) (.cons (.tmp rfl) (.cons (.tmp rfl) .nil)), rfl⟩, rfl, rfl, by unfold decV; rw [if_neg h29, if_neg h42, if_neg h65, if_pos h82, h82] <;> rfl, rfl⟩
        · refine a_skip ?_
          refine a_seq ?_
          have hk : k = 4 := by have a0 := h29; have a1 := h42; have a2 := h65; have a3 := h82; omega
          have eV : decV mx k b = if (decN mx true b).2.2 = 0 then (⟨4, 0, 0, false, [], (decL (decN mx true b).1 (b.drop (decN mx true b).2.1)).1⟩, (decN mx true b).2.1 + (decL (decN mx true b).1 (b.drop (decN mx true b).2.1)).2.1, (decL (decN mx true b).1 (b.drop (decN mx true b).2.1)).2.2) else (⟨4, 0, 0, false, [], []⟩, 0, (decN mx true b).2.2) := by unfold decV; rw [if_neg h29, if_neg h42, if_neg h65, if_neg h82]
          refine a_region ?_
          refine Pstep.go (st_move rfl rfl) ?_
          refine Pstep.go (st_callP (readUint_p b (by omega)) rfl rfl) ?_
          refine Pstep.go (st_move rfl rfl) ?_
          first | refine Pstep.go (st_extractD rfl rfl rfl) ?_ | refine Pstep.go (st_extract rfl rfl rfl) ?_
          first | refine Pstep.go (st_extractD rfl rfl rfl) ?_ | refine Pstep.go (st_extract rfl rfl rfl) ?_
          first | refine Pstep.go (st_extractD rfl rfl rfl) ?_ | refine Pstep.go (st_extract rfl rfl rfl) ?_
          refine Pstep.go (st_assign rfl rfl) ?_
          refine Pstep.go (st_assign rfl rfl) ?_
          refine Pstep.go (st_assign rfl rfl) ?_
          refine o_nil ?_
          refine a_seq ?_
          refine a_seq ?_
          refine a_region ?_
          refine Pstep.go (st_move rfl rfl) ?_
          first | refine Pstep.go (st_neq rfl rfl rfl) ?_ | refine Pstep.go (st_neqSL rfl rfl rfl) ?_ | refine Pstep.go (st_neqS rfl rfl rfl) ?_ | refine Pstep.go (st_neqB Try.underlying3 rfl rfl rfl) ?_ | refine Pstep.go (st_neqP Try.underlying3 rfl rfl rfl) ?_ | refine Pstep.go (st_neqN Try.underlying3 rfl rfl) ?_ | refine Pstep.go (st_neqF Try.underlying3 rfl rfl rfl) ?_ | refine Pstep.go (st_neqFN Try.underlying3 rfl rfl) ?_
          refine o_nil ?_
          first | refine a_if rfl (fun h102 => ?_) (fun h102 => ?_) | refine a_cond rfl (fun h102 => ?_) (fun h102 => ?_)
          · refine a_seq ?_
            refine a_region ?_
            first | refine Pstep.go (st_loadDS rfl rfl rw32 rfl) ?_ | refine Pstep.go (st_loadPS rfl rfl rw32 rfl rfl rfl) ?_ | refine Pstep.go (st_loadRS rfl rfl (rfl) rfl rw32 rfl) ?_
            refine o_weakD 103 (.agg [.raw (.int .i64 k), .raw (.int .u64 0), .raw (.int .i64 0), .raw (.bool false), .raw (.string ⟨#[]⟩), .sl none []]) rfl (fun _ _ _ h => aggNil h) ?_
            refine Pstep.go (st_move rfl rfl) ?_
            refine Estep.go (st_storeP rfl rfl rfl rfl rfl rfl rfl sz32) ?_
            refine Pstep.go (st_assign rfl rfl) ?_
            refine Pstep.go (st_assign rfl rfl) ?_
            refine o_nil ?_
            refine a_ret ?_
            have e0 : ¬ (rdU 0 0 b).2.2 = 0 := by have h := h102; omega
            have eN : decN mx true b = (0, 0, (rdU 0 0 b).2.2) := by unfold decN; rw [if_neg e0]
            exact ⟨_, [], [], ⟨_, .cons (.cellS rfl rfl rw32 rfl rfl) (.cons (.tmp rfl) (.cons (.tmp rfl) .nil)), rfl⟩, rfl, rfl, by rw [eV, eN, if_neg e0, hk] <;> rfl, rfl⟩
          · have e0 : (rdU 0 0 b).2.2 = 0 := by have h := h102; omega
            refine a_skip ?_
            refine a_seq ?_
            refine a_seq ?_
            refine a_region ?_
            refine Pstep.go (st_move rfl rfl) ?_
            first | refine Pstep.go (st_gtr rfl rfl rfl) ?_ | refine Pstep.go (st_gtrS rfl rfl rfl) ?_
            refine Pstep.go (st_move rfl rfl) ?_
            first | refine o_splitP 107 rfl (fun h107 => ?_) (fun h107 => ?_) | refine o_splitB 107 rfl (fun h107 => ?_) (fun h107 => ?_)
            · refine o_pass rfl rfl rfl rfl ?_
              refine o_pass rfl rfl rfl rfl ?_
              refine Pstep.go (st_pickT rfl rfl rfl rfl) ?_
              refine Pstep.go (st_move rfl rfl) ?_
              refine o_pass rfl rfl rfl rfl ?_
              refine o_pass rfl rfl rfl rfl ?_
              first | have g0 : ¬ mx < 0 := h111 | skip
              refine o_pass rfl rfl rfl rfl ?_
              refine o_pass rfl rfl rfl rfl ?_
              refine Pstep.go (st_pickT rfl rfl rfl rfl) ?_
              refine o_nil ?_
              refine a_true rfl rfl ?_
              refine a_seq ?_
              refine a_region ?_
              first | refine Pstep.go (st_loadDS rfl rfl rw32 rfl) ?_ | refine Pstep.go (st_loadPS rfl rfl rw32 rfl rfl rfl) ?_ | refine Pstep.go (st_loadRS rfl rfl (rfl) rfl rw32 rfl) ?_
              refine o_weakD 117 (.agg [.raw (.int .i64 k), .raw (.int .u64 0), .raw (.int .i64 0), .raw (.bool false), .raw (.string ⟨#[]⟩), .sl none []]) rfl (fun _ _ _ h => aggNil h) ?_
              refine Estep.go (st_storeP rfl rfl rfl rfl rfl rfl rfl sz32) ?_
              refine Pstep.go (st_assign rfl rfl) ?_
              refine Pstep.go (st_assign rfl rfl) ?_
              refine o_nil ?_
              refine a_ret ?_
              have e1 : mx < 0 ∨ mx < (rdU 0 0 b).1 ∨ 1048576 < (rdU 0 0 b).1 := by first | (have h := h107; omega) | exact .inl h111 | (have h := h116; omega)
              have eN : decN mx true b = (0, 0, 5) := by unfold decN; rw [if_pos e0, if_pos e1]
              exact ⟨_, [], [], ⟨_, .cons (.cellS rfl rfl rw32 rfl rfl) (.cons (.tmp rfl) (.cons (.tmp rfl) .nil)), rfl⟩, rfl, rfl, by rw [eV, eN, if_neg (by decide), hk] <;> rfl, rfl⟩
            · refine o_run rfl rfl rfl ?_
              refine Pstep.go (st_move rfl rfl) ?_
              refine o_run rfl rfl rfl ?_
              first | refine Pstep.go (st_lss rfl rfl rfl) ?_ | refine Pstep.go (st_lssS rfl rfl rfl) ?_
              refine Pstep.go (st_pickF rfl rfl rfl rfl) ?_
              refine Pstep.go (st_move rfl rfl) ?_
              first | refine o_splitP 111 rfl (fun h111 => ?_) (fun h111 => ?_) | refine o_splitB 111 rfl (fun h111 => ?_) (fun h111 => ?_)
              · refine o_pass rfl rfl rfl rfl ?_
                refine o_pass rfl rfl rfl rfl ?_
                first | have g0 : ¬ mx < 0 := h111 | skip
                refine o_pass rfl rfl rfl rfl ?_
                refine o_pass rfl rfl rfl rfl ?_
                refine Pstep.go (st_pickT rfl rfl rfl rfl) ?_
                refine o_nil ?_
                refine a_true rfl rfl ?_
                refine a_seq ?_
                refine a_region ?_
                first | refine Pstep.go (st_loadDS rfl rfl rw32 rfl) ?_ | refine Pstep.go (st_loadPS rfl rfl rw32 rfl rfl rfl) ?_ | refine Pstep.go (st_loadRS rfl rfl (rfl) rfl rw32 rfl) ?_
                refine o_weakD 117 (.agg [.raw (.int .i64 k), .raw (.int .u64 0), .raw (.int .i64 0), .raw (.bool false), .raw (.string ⟨#[]⟩), .sl none []]) rfl (fun _ _ _ h => aggNil h) ?_
                refine Estep.go (st_storeP rfl rfl rfl rfl rfl rfl rfl sz32) ?_
                refine Pstep.go (st_assign rfl rfl) ?_
                refine Pstep.go (st_assign rfl rfl) ?_
                refine o_nil ?_
                refine a_ret ?_
                have e1 : mx < 0 ∨ mx < (rdU 0 0 b).1 ∨ 1048576 < (rdU 0 0 b).1 := by first | (have h := h107; omega) | exact .inl h111 | (have h := h116; omega)
                have eN : decN mx true b = (0, 0, 5) := by unfold decN; rw [if_pos e0, if_pos e1]
                exact ⟨_, [], [], ⟨_, .cons (.cellS rfl rfl rw32 rfl rfl) (.cons (.tmp rfl) (.cons (.tmp rfl) .nil)), rfl⟩, rfl, rfl, by rw [eV, eN, if_neg (by decide), hk] <;> rfl, rfl⟩
              · refine o_run rfl rfl rfl ?_
                refine Pstep.go (st_move rfl rfl) ?_
                refine o_run rfl rfl rfl ?_
                refine Pstep.go (st_move rfl rfl) ?_
                first | have g0 : ¬ mx < 0 := h111 | skip
                refine o_run rfl rfl rfl ?_
                refine Pstep.go (st_conv rfl Try.underlying3 Try.underlying29 (wrapM mx (by omega) h2) rfl) ?_
                refine o_run rfl rfl rfl ?_
                first | refine Pstep.go (st_gtr rfl rfl rfl) ?_ | refine Pstep.go (st_gtrS rfl rfl rfl) ?_
                refine Pstep.go (st_pickF rfl rfl rfl rfl) ?_
                refine o_nil ?_
                first | refine a_if rfl (fun h116 => ?_) (fun h116 => ?_) | refine a_cond rfl (fun h116 => ?_) (fun h116 => ?_)
                · refine a_seq ?_
                  refine a_region ?_
                  first | refine Pstep.go (st_loadDS rfl rfl rw32 rfl) ?_ | refine Pstep.go (st_loadPS rfl rfl rw32 rfl rfl rfl) ?_ | refine Pstep.go (st_loadRS rfl rfl (rfl) rfl rw32 rfl) ?_
                  refine o_weakD 117 (.agg [.raw (.int .i64 k), .raw (.int .u64 0), .raw (.int .i64 0), .raw (.bool false), .raw (.string ⟨#[]⟩), .sl none []]) rfl (fun _ _ _ h => aggNil h) ?_
                  refine Estep.go (st_storeP rfl rfl rfl rfl rfl rfl rfl sz32) ?_
                  refine Pstep.go (st_assign rfl rfl) ?_
                  refine Pstep.go (st_assign rfl rfl) ?_
                  refine o_nil ?_
                  refine a_ret ?_
                  have e1 : mx < 0 ∨ mx < (rdU 0 0 b).1 ∨ 1048576 < (rdU 0 0 b).1 := by first | (have h := h107; omega) | exact .inl h111 | (have h := h116; omega)
                  have eN : decN mx true b = (0, 0, 5) := by unfold decN; rw [if_pos e0, if_pos e1]
                  exact ⟨_, [], [], ⟨_, .cons (.cellS rfl rfl rw32 rfl rfl) (.cons (.tmp rfl) (.cons (.tmp rfl) .nil)), rfl⟩, rfl, rfl, by rw [eV, eN, if_neg (by decide), hk] <;> rfl, rfl⟩
                · refine a_skip ?_
                  refine a_seq ?_
                  refine a_seq ?_
                  have e1 : ¬ (mx < 0 ∨ mx < (rdU 0 0 b).1 ∨ 1048576 < (rdU 0 0 b).1) := by have a1 := h107; have a2 := h111; have a3 := h116; omega
                  have eN : decN mx true b = ((rdU 0 0 b).1, (rdU 0 0 b).2.1, 0) := by unfold decN; rw [if_pos e0, if_neg e1, if_pos rfl]
                  rw [eN] at eV
                  dsimp only at eV
                  rw [if_pos rfl] at eV
                  refine a_adoptC 2 0 5 950 sl30 rfl rfl rfl rfl rfl rfl rfl ?_
                  refine a_region ?_
                  refine Pstep.go (st_assign rfl rfl) ?_
                  refine o_nil ?_
                  refine a_block ?_
                  refine a_loopP (α := Nat × Nat × List (List UInt8)) (fun p => ⟨149, [(0, .d (.raw (.int .i64 k))), (1, .d (bytesD b)), (6, .ptr 1 0 0), (9, .ptr 2 0 0), (19, (.d (.raw (.int .u64 ((rdU 0 0 b).1 : Int))))), (20, (.d (.raw (.int .i64 (((rdU 0 0 b).2.1 + p.2.1 : Nat) : Int))))), (22, (.d (.raw (.int .i64 (p.1 : Int)))))], [(1, [.blk 32 [.d (.raw (.int .i64 0)), .d (.raw (.int .u64 0)), .d (.raw (.int .i64 0)), .d (.raw (.bool false)), .d (.raw (.string ⟨#[]⟩)), .d (.sl (some true) [])]]), (2, [.blk 32 [.d (.raw (.int .i64 k)), .d (.raw (.int .u64 0)), .d (.raw (.int .i64 0)), .d (.raw (.bool false)), .d (.raw (.string ⟨#[]⟩)), .own 950 0 p.2.2.length]]), (950, [.rowD 9 1 (p.2.2.map strD)])]⟩) (fun p => p.1 ≤ (rdU 0 0 b).1 ∧ p.2.2.length = p.1 ∧ LSt (b.drop (rdU 0 0 b).2.1) (rdU 0 0 b).1 p.1 p.2.1 p.2.2) (fun p => (rdU 0 0 b).1 - p.1) ((0, 0, [])) (⟨Nat.zero_le _, rfl, LSt.start _ _⟩) (lep_of hF [1, 2, 950] rfl rfl ⟨rfl, rfl, rfl, rfl, rfl, rfl, rfl, trivial⟩) ?_
                  rintro ⟨i, a, acc⟩ ⟨hi0, hal, hst⟩
                  dsimp only at hi0 hal hst ⊢
                  have hal2 := hst.1
                  rw [List.length_drop] at hal2
                  refine a_seq ?_
                  refine a_seq ?_
                  refine a_region ?_
                  refine Pstep.go (st_move rfl rfl) ?_
                  refine Pstep.go (st_move rfl rfl) ?_
                  refine Pstep.go (st_conv rfl Try.underlying29 Try.underlying3 (wrapS _ (by omega)) rfl) ?_
                  first | refine Pstep.go (st_lss rfl rfl rfl) ?_ | refine Pstep.go (st_lssS rfl rfl rfl) ?_
                  refine o_nil ?_
                  first | refine a_if rfl (fun h121 => ?_) (fun h121 => ?_) | refine a_cond rfl (fun h121 => ?_) (fun h121 => ?_)
                  · refine a_skip ?_
                    refine a_seq ?_
                    refine a_block ?_
                    refine a_seq ?_
                    refine a_region ?_
                    have hi : i < (rdU 0 0 b).1 := by have h := h121; omega
                    refine Pstep.go (st_move rfl rfl) ?_
                    refine Pstep.go (st_move rfl rfl) ?_
                    refine Pstep.go (st_sliceLoM (b) ((rdU 0 0 b).2.1 + a) rfl rfl rfl (rfl) (by omega) Try.underlying27 sz5 (fun _ => rfl) rfl) ?_
                    refine o_weakD 127 (bytesD ((b.drop (rdU 0 0 b).2.1).drop a)) rfl (fun _ _ _ h => by rw [List.drop_drop]; exact h) ?_
                    have hdf := decS_fits ((b.drop (rdU 0 0 b).2.1).drop a)
                    rw [List.length_drop, List.length_drop] at hdf
                    refine Pstep.go (st_callP (readString_p ((b.drop (rdU 0 0 b).2.1).drop a) (by rw [List.length_drop, List.length_drop]; omega)) rfl rfl) ?_
                    refine Pstep.go (st_move rfl rfl) ?_
                    first | refine Pstep.go (st_extractD rfl rfl rfl) ?_ | refine Pstep.go (st_extract rfl rfl rfl) ?_
                    first | refine Pstep.go (st_extractD rfl rfl rfl) ?_ | refine Pstep.go (st_extract rfl rfl rfl) ?_
                    first | refine Pstep.go (st_extractD rfl rfl rfl) ?_ | refine Pstep.go (st_extract rfl rfl rfl) ?_
                    refine Pstep.go (st_assign rfl rfl) ?_
                    refine Pstep.go (st_assign rfl rfl) ?_
                    refine Pstep.go (st_assign rfl rfl) ?_
                    refine o_nil ?_
                    refine a_seq ?_
                    refine a_seq ?_
                    refine a_region ?_
                    refine Pstep.go (st_move rfl rfl) ?_
                    first | refine Pstep.go (st_neq rfl rfl rfl) ?_ | refine Pstep.go (st_neqSL rfl rfl rfl) ?_ | refine Pstep.go (st_neqS rfl rfl rfl) ?_ | refine Pstep.go (st_neqB Try.underlying3 rfl rfl rfl) ?_ | refine Pstep.go (st_neqP Try.underlying3 rfl rfl rfl) ?_ | refine Pstep.go (st_neqN Try.underlying3 rfl rfl) ?_ | refine Pstep.go (st_neqF Try.underlying3 rfl rfl rfl) ?_ | refine Pstep.go (st_neqFN Try.underlying3 rfl rfl) ?_
                    refine o_nil ?_
                    first | refine a_if rfl (fun h133 => ?_) (fun h133 => ?_) | refine a_cond rfl (fun h133 => ?_) (fun h133 => ?_)
                    · refine a_seq ?_
                      refine a_region ?_
                      refine Pstep.go (st_move rfl rfl) ?_
                      refine Pstep.go (st_build zl32 pl32 rfl rfl rfl) ?_
                      refine o_weakD 135 (.agg [.raw (.int .i64 k), .raw (.int .u64 0), .raw (.int .i64 0), .raw (.bool false), .raw (.string ⟨#[]⟩), .sl none []]) rfl (fun _ _ _ h => aggNil h) ?_
                      refine Pstep.go (st_move rfl rfl) ?_
                      refine Pstep.go (st_move rfl rfl) ?_
                      refine Estep.go (st_storeP rfl rfl rfl rfl rfl rfl rfl sz32) ?_
                      refine Pstep.go (st_assign rfl rfl) ?_
                      refine Pstep.go (st_assign rfl rfl) ?_
                      refine o_nil ?_
                      refine a_ret ?_
                      have hd : ¬ (decS ((b.drop (rdU 0 0 b).2.1).drop a)).2.2 = 0 := by have h := h133; omega
                      have hbd := hst.bad hi hd
                      exact ⟨_, [], [], ⟨_, .cons (.cellS rfl rfl rw32 rfl rfl) (.cons (.tmp rfl) (.cons (.tmp rfl) .nil)), rfl⟩, rfl, rfl, by rw [eV, hbd, hk] <;> rfl, rfl⟩
                    · have hd : (decS ((b.drop (rdU 0 0 b).2.1).drop a)).2.2 = 0 := by have h := h133; omega
                      refine a_skip ?_
                      refine a_seq ?_
                      refine a_region ?_
                      first | refine Pstep.go (st_fieldP rfl fi32_5 rfl rfl rfl) ?_ | refine Pstep.go (st_fieldF1 rfl fi32_5 rfl rfl rfl) ?_ | refine Pstep.go (st_fieldFS rfl fi32_5 rfl rfl rfl) ?_ | refine Pstep.go (st_fieldR rfl fi32_5 rfl rfl rfl) ?_
                      first | refine Pstep.go (st_loadD1 rfl rfl on30 rfl) ?_ | refine Pstep.go (st_loadP rfl rfl rfl on30 rfl) ?_ | refine Pstep.go (st_loadR rfl rfl (rfl) rfl on30 rfl) ?_
                      refine Pstep.go (st_move rfl rfl) ?_
                      refine Estep.go (st_buildSlice 3 sl30 rfl rfl rfl rfl rfl rfl rfl rfl) ?_
                      first | refine Estep.go (st_appM (acc) ([(decS ((b.drop (rdU 0 0 b).2.1).drop a)).1]) rfl rfl rfl rfl rfl rfl rfl rfl sl30 (by rw [hal]; show (i + 1) * 16 ≤ _; omega) rfl rfl rfl rfl) ?_ | refine Estep.go (st_appMD (acc) ([(decS ((b.drop (rdU 0 0 b).2.1).drop a)).1]) rfl rfl rfl rfl rfl rfl (fun _ => rfl) sl30 (by rw [hal]; show (i + 1) * 16 ≤ _; omega) rfl rfl rfl rfl) ?_
                      first | refine Pstep.go (st_fieldP rfl fi32_5 rfl rfl rfl) ?_ | refine Pstep.go (st_fieldF1 rfl fi32_5 rfl rfl rfl) ?_ | refine Pstep.go (st_fieldFS rfl fi32_5 rfl rfl rfl) ?_ | refine Pstep.go (st_fieldR rfl fi32_5 rfl rfl rfl) ?_
                      refine Estep.go (st_storeP rfl rfl rfl rfl rfl rfl rfl sz30) ?_
                      refine o_nil ?_
                      refine a_region ?_
                      refine Pstep.go (st_move rfl rfl) ?_
                      refine Pstep.go (st_move rfl rfl) ?_
                      refine Pstep.go (st_add rfl rfl (show IntKind.i64.wrap ((((rdU 0 0 b).2.1 + a : Nat) : Int) + ((decS ((b.drop (rdU 0 0 b).2.1).drop a)).2.1 : Int)) = (((rdU 0 0 b).2.1 + (a + (decS ((b.drop (rdU 0 0 b).2.1).drop a)).2.1) : Nat) : Int) by rw [← Int.natCast_add, wrapS _ (by omega), Nat.add_assoc]) rfl) ?_
                      refine Pstep.go (st_assign rfl rfl) ?_
                      refine o_nil ?_
                      refine a_region ?_
                      refine Pstep.go (st_move rfl rfl) ?_
                      refine Pstep.go (st_add rfl rfl (IntWalk.i64_in _ (by omega)) rfl) ?_
                      refine Pstep.go (st_assign rfl rfl) ?_
                      refine o_nil ?_
                      exact ⟨(i + 1, a + (decS ((b.drop (rdU 0 0 b).2.1).drop a)).2.1, acc ++ [(decS ((b.drop (rdU 0 0 b).2.1).drop a)).1]), ⟨by show i + 1 ≤ _; omega, by show (acc ++ [_]).length = i + 1; simp [hal], hst.step hi hd⟩, by show (rdU 0 0 b).1 - (i + 1) < (rdU 0 0 b).1 - i; omega, lep_of hF [1, 2, 950] rfl (rfl) ⟨rfl, rfl, rfl, rfl, rfl, rfl, rfl, trivial⟩⟩
                  · refine a_exit ?_
                    refine a_seq ?_
                    have hin : i = (rdU 0 0 b).1 := by have h := h121; omega
                    subst hin
                    have hdn := hst.done
                    refine a_region ?_
                    refine o_freezeCM 2 0 5 950 acc rfl rfl rfl rfl rfl rfl rfl rfl rfl rfl rfl ?_
                    first | refine Pstep.go (st_loadDS rfl rfl rw32 rfl) ?_ | refine Pstep.go (st_loadPS rfl rfl rw32 rfl rfl rfl) ?_ | refine Pstep.go (st_loadRS rfl rfl (rfl) rfl rw32 rfl) ?_
                    refine Pstep.go (st_move rfl rfl) ?_
                    refine Estep.go (st_storeP rfl rfl rfl rfl rfl rfl rfl sz32) ?_
                    refine Pstep.go (st_assign rfl rfl) ?_
                    refine Pstep.go (st_assign rfl rfl) ?_
                    refine o_nil ?_
                    refine a_ret ?_
                    exact ⟨_, [], [], ⟨_, .cons (.cellS rfl rfl rw32 rfl rfl) (.cons (.tmp rfl) (.cons (.tmp rfl) .nil)), rfl⟩, rfl, rfl, by rw [eV, hdn, hk] <;> rfl, rfl⟩
end Go.Proofs.Ytjbghmlofjkcfaa
