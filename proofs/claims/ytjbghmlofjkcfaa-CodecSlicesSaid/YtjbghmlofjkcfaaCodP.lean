/- The walks of the codec's reference: Pure, Encode. -/
import Derived.Test.YtjbghmlofjkcfaaCodR
import Derived.Test.YtjbghmlofjkcfaaApp
namespace Go.Proofs.Ytjbghmlofjkcfaa
open Go.RowKit

structure CV where
  k : Int
  u : Nat
  i : Int
  b : Bool
  s : List UInt8
  l : List (List UInt8)
abbrev strsD (l : List (List UInt8)) : D := .sl none (l.map strD)
abbrev vD (v : CV) : D := .agg [.raw (.int .i64 v.k), .raw (.int .u64 (v.u : Int)), .raw (.int .i64 v.i), .raw (.bool v.b), strD v.s, strsD v.l]
/-- The value alone, without what its kind doesn't use. -/
def pureV (v : CV) : D :=
  if v.k = 0 then .agg [.raw (.int .i64 0), .raw (.int .u64 (v.u : Int)), .raw (.int .i64 0), .raw (.bool false), .raw (.string ⟨#[]⟩), .sl (some true) []]
  else if v.k = 1 then .agg [.raw (.int .i64 1), .raw (.int .u64 0), .raw (.int .i64 v.i), .raw (.bool false), .raw (.string ⟨#[]⟩), .sl (some true) []]
  else if v.k = 2 then .agg [.raw (.int .i64 2), .raw (.int .u64 0), .raw (.int .i64 0), .raw (.bool v.b), .raw (.string ⟨#[]⟩), .sl (some true) []]
  else if v.k = 3 then .agg [.raw (.int .i64 3), .raw (.int .u64 0), .raw (.int .i64 0), .raw (.bool false), strD v.s, .sl (some true) []]
  else .agg [.raw (.int .i64 4), .raw (.int .u64 0), .raw (.int .i64 0), .raw (.bool false), .raw (.string ⟨#[]⟩), strsD v.l]
def pureC (v : CV) : CV :=
  if v.k = 0 then ⟨0, v.u, 0, false, [], []⟩
  else if v.k = 1 then ⟨1, 0, v.i, false, [], []⟩
  else if v.k = 2 then ⟨2, 0, 0, v.b, [], []⟩
  else if v.k = 3 then ⟨3, 0, 0, false, v.s, []⟩
  else ⟨4, 0, 0, false, [], v.l⟩
theorem aggNil {w : World} {O : Nat → Prop} {a b c d e : D} {v : Value} (h : RepD w O (.agg [a, b, c, d, e, .sl (some true) []]) v) : RepD w O (.agg [a, b, c, d, e, .sl none []]) v := by
  have h1 : ∀ x ∈ [a, b, c, d, e, .sl none []], x.one = true := by
    cases h with
    | agg _ h1 _ =>
      intro x hx
      simp only [List.mem_cons, List.not_mem_nil, or_false] at hx h1
      rcases hx with rfl | rfl | rfl | rfl | rfl | rfl <;> first | rfl | (apply h1; simp)
  refine h.aggMono rfl h1 fun i x y hx hy v hv => ?_
  match i with
  | 0 | 1 | 2 | 3 | 4 => simp at hx hy; subst hx hy; exact hv
  | 5 => simp at hx hy; subst hx hy; exact hv.anyNil
  | i + 6 => simp at hx
theorem pureV_C {w : World} {O : Nat → Prop} (v : CV) (u : Value) (h : RepD w O (pureV v) u) : RepD w O (vD (pureC v)) u := by
  unfold pureV at h
  unfold pureC
  split at h <;> rename_i e1
  · rw [if_pos e1]; exact aggNil h
  rw [if_neg e1]
  split at h <;> rename_i e2
  · rw [if_pos e2]; exact aggNil h
  rw [if_neg e2]
  split at h <;> rename_i e3
  · rw [if_pos e3]; exact aggNil h
  rw [if_neg e3]
  split at h <;> rename_i e4
  · rw [if_pos e4]; exact aggNil h
  rw [if_neg e4]; exact h
theorem pure_p0 (v : CV) : PCalls Try.prog 16 [.d (vD v)] (pureV v) := by
  refine a_enter Try.func16 rfl rfl Try.ntmps16 rfl rfl rfl fun F hF => ?_
  refine a_seq ?_
  refine a_region ?_
  refine Estep.go (st_box 1 rfl rfl rfl rfl rfl rfl rfl) ?_
  refine Estep.go (st_alloc 2 zl32 rfl rfl rfl rfl) ?_
  refine o_nil ?_
  refine a_seq ?_
  refine a_seq ?_
  refine a_region ?_
  first | refine Pstep.go (st_fieldP rfl fi32_0 rfl rfl rfl) ?_ | refine Pstep.go (st_fieldF1 rfl fi32_0 rfl rfl rfl) ?_ | refine Pstep.go (st_fieldFS rfl fi32_0 rfl rfl rfl) ?_ | refine Pstep.go (st_fieldR rfl fi32_0 rfl rfl rfl) ?_
  first | refine Pstep.go (st_loadD1 rfl rfl on3 rfl) ?_ | refine Pstep.go (st_loadP rfl rfl rfl on3 rfl) ?_ | refine Pstep.go (st_loadR rfl rfl (rfl) rfl on3 rfl) ?_
  refine o_nil ?_
  refine a_block ?_
  refine a_seq ?_
  refine a_region ?_
  first | refine Pstep.go (st_eql rfl rfl rfl) ?_ | refine Pstep.go (st_eqlSL rfl rfl rfl) ?_ | refine Pstep.go (st_eqlS rfl rfl rfl) ?_ | refine Pstep.go (st_eqlB Try.underlying3 rfl rfl rfl) ?_ | refine Pstep.go (st_eqlP Try.underlying3 rfl rfl rfl) ?_ | refine Pstep.go (st_eqlN Try.underlying3 rfl rfl) ?_ | refine Pstep.go (st_eqlF Try.underlying3 rfl rfl rfl) ?_ | refine Pstep.go (st_eqlFN Try.underlying3 rfl rfl) ?_
  refine Pstep.go (st_assign rfl rfl) ?_
  refine o_nil ?_
  first | refine a_if rfl (fun h5 => ?_) (fun h5 => ?_) | refine a_cond rfl (fun h5 => ?_) (fun h5 => ?_)
  · refine a_seq ?_
    refine a_region ?_
    first | refine Pstep.go (st_fieldP rfl fi32_1 rfl rfl rfl) ?_ | refine Pstep.go (st_fieldF1 rfl fi32_1 rfl rfl rfl) ?_ | refine Pstep.go (st_fieldFS rfl fi32_1 rfl rfl rfl) ?_ | refine Pstep.go (st_fieldR rfl fi32_1 rfl rfl rfl) ?_
    first | refine Pstep.go (st_loadD1 rfl rfl on29 rfl) ?_ | refine Pstep.go (st_loadP rfl rfl rfl on29 rfl) ?_ | refine Pstep.go (st_loadR rfl rfl (rfl) rfl on29 rfl) ?_
    refine Pstep.go (st_build zl32 pl32 rfl rfl rfl) ?_
    refine Estep.go (st_storeP rfl rfl rfl rfl rfl rfl rfl sz32) ?_
    refine o_nil ?_
    refine a_ret ?_
    exact ⟨_, [], [], res_of rfl, rfl, rfl, by unfold pureV; simp_all, rfl⟩
  · refine a_seq ?_
    refine a_region ?_
    first | refine Pstep.go (st_eql rfl rfl rfl) ?_ | refine Pstep.go (st_eqlSL rfl rfl rfl) ?_ | refine Pstep.go (st_eqlS rfl rfl rfl) ?_ | refine Pstep.go (st_eqlB Try.underlying3 rfl rfl rfl) ?_ | refine Pstep.go (st_eqlP Try.underlying3 rfl rfl rfl) ?_ | refine Pstep.go (st_eqlN Try.underlying3 rfl rfl) ?_ | refine Pstep.go (st_eqlF Try.underlying3 rfl rfl rfl) ?_ | refine Pstep.go (st_eqlFN Try.underlying3 rfl rfl) ?_
    refine Pstep.go (st_assign rfl rfl) ?_
    refine o_nil ?_
    first | refine a_if rfl (fun h10 => ?_) (fun h10 => ?_) | refine a_cond rfl (fun h10 => ?_) (fun h10 => ?_)
    · refine a_seq ?_
      refine a_region ?_
      first | refine Pstep.go (st_fieldP rfl fi32_2 rfl rfl rfl) ?_ | refine Pstep.go (st_fieldF1 rfl fi32_2 rfl rfl rfl) ?_ | refine Pstep.go (st_fieldFS rfl fi32_2 rfl rfl rfl) ?_ | refine Pstep.go (st_fieldR rfl fi32_2 rfl rfl rfl) ?_
      first | refine Pstep.go (st_loadD1 rfl rfl on2 rfl) ?_ | refine Pstep.go (st_loadP rfl rfl rfl on2 rfl) ?_ | refine Pstep.go (st_loadR rfl rfl (rfl) rfl on2 rfl) ?_
      refine Pstep.go (st_build zl32 pl32 rfl rfl rfl) ?_
      refine Estep.go (st_storeP rfl rfl rfl rfl rfl rfl rfl sz32) ?_
      refine o_nil ?_
      refine a_ret ?_
      exact ⟨_, [], [], res_of rfl, rfl, rfl, by unfold pureV; simp_all, rfl⟩
    · refine a_seq ?_
      refine a_region ?_
      first | refine Pstep.go (st_eql rfl rfl rfl) ?_ | refine Pstep.go (st_eqlSL rfl rfl rfl) ?_ | refine Pstep.go (st_eqlS rfl rfl rfl) ?_ | refine Pstep.go (st_eqlB Try.underlying3 rfl rfl rfl) ?_ | refine Pstep.go (st_eqlP Try.underlying3 rfl rfl rfl) ?_ | refine Pstep.go (st_eqlN Try.underlying3 rfl rfl) ?_ | refine Pstep.go (st_eqlF Try.underlying3 rfl rfl rfl) ?_ | refine Pstep.go (st_eqlFN Try.underlying3 rfl rfl) ?_
      refine Pstep.go (st_assign rfl rfl) ?_
      refine o_nil ?_
      first | refine a_if rfl (fun h15 => ?_) (fun h15 => ?_) | refine a_cond rfl (fun h15 => ?_) (fun h15 => ?_)
      · refine a_seq ?_
        refine a_region ?_
        first | refine Pstep.go (st_fieldP rfl fi32_3 rfl rfl rfl) ?_ | refine Pstep.go (st_fieldF1 rfl fi32_3 rfl rfl rfl) ?_ | refine Pstep.go (st_fieldFS rfl fi32_3 rfl rfl rfl) ?_ | refine Pstep.go (st_fieldR rfl fi32_3 rfl rfl rfl) ?_
        first | refine Pstep.go (st_loadD1 rfl rfl on4 rfl) ?_ | refine Pstep.go (st_loadP rfl rfl rfl on4 rfl) ?_ | refine Pstep.go (st_loadR rfl rfl (rfl) rfl on4 rfl) ?_
        refine Pstep.go (st_build zl32 pl32 rfl rfl rfl) ?_
        refine Estep.go (st_storeP rfl rfl rfl rfl rfl rfl rfl sz32) ?_
        refine o_nil ?_
        refine a_ret ?_
        exact ⟨_, [], [], res_of rfl, rfl, rfl, by unfold pureV; simp_all, rfl⟩
      · refine a_seq ?_
        refine a_region ?_
        first | refine Pstep.go (st_eql rfl rfl rfl) ?_ | refine Pstep.go (st_eqlSL rfl rfl rfl) ?_ | refine Pstep.go (st_eqlS rfl rfl rfl) ?_ | refine Pstep.go (st_eqlB Try.underlying3 rfl rfl rfl) ?_ | refine Pstep.go (st_eqlP Try.underlying3 rfl rfl rfl) ?_ | refine Pstep.go (st_eqlN Try.underlying3 rfl rfl) ?_ | refine Pstep.go (st_eqlF Try.underlying3 rfl rfl rfl) ?_ | refine Pstep.go (st_eqlFN Try.underlying3 rfl rfl) ?_
        refine Pstep.go (st_assign rfl rfl) ?_
        refine o_nil ?_
        first | refine a_if rfl (fun h20 => ?_) (fun h20 => ?_) | refine a_cond rfl (fun h20 => ?_) (fun h20 => ?_)
        · refine a_seq ?_
          refine a_region ?_
          first | refine Pstep.go (st_fieldP rfl fi32_4 rfl rfl rfl) ?_ | refine Pstep.go (st_fieldF1 rfl fi32_4 rfl rfl rfl) ?_ | refine Pstep.go (st_fieldFS rfl fi32_4 rfl rfl rfl) ?_ | refine Pstep.go (st_fieldR rfl fi32_4 rfl rfl rfl) ?_
          first | refine Pstep.go (st_loadD1 rfl rfl on9 rfl) ?_ | refine Pstep.go (st_loadP rfl rfl rfl on9 rfl) ?_ | refine Pstep.go (st_loadR rfl rfl (rfl) rfl on9 rfl) ?_
          refine Pstep.go (st_build zl32 pl32 rfl rfl rfl) ?_
          refine Estep.go (st_storeP rfl rfl rfl rfl rfl rfl rfl sz32) ?_
          refine o_nil ?_
          refine a_ret ?_
          exact ⟨_, [], [], res_of rfl, rfl, rfl, by unfold pureV; simp_all, rfl⟩
        · refine a_skip ?_
          refine a_seq ?_
          refine a_region ?_
          first | refine Pstep.go (st_fieldP rfl fi32_5 rfl rfl rfl) ?_ | refine Pstep.go (st_fieldF1 rfl fi32_5 rfl rfl rfl) ?_ | refine Pstep.go (st_fieldFS rfl fi32_5 rfl rfl rfl) ?_ | refine Pstep.go (st_fieldR rfl fi32_5 rfl rfl rfl) ?_
          first | refine Pstep.go (st_loadD1 rfl rfl on30 rfl) ?_ | refine Pstep.go (st_loadP rfl rfl rfl on30 rfl) ?_ | refine Pstep.go (st_loadR rfl rfl (rfl) rfl on30 rfl) ?_
          refine Pstep.go (st_build zl32 pl32 rfl rfl rfl) ?_
          refine Estep.go (st_storeP rfl rfl rfl rfl rfl rfl rfl sz32) ?_
          refine o_nil ?_
          refine a_ret ?_
          exact ⟨_, [], [], res_of rfl, rfl, rfl, by unfold pureV; simp_all, rfl⟩
theorem pure_p (v : CV) : PCalls Try.prog 16 [.d (vD v)] (vD (pureC v)) := (pure_p0 v).weak fun _ _ _ h => pureV_C v _ h

/-- The encoding of a value. -/
def encS (b : List UInt8) : List UInt8 := uv b.length ++ b
def encL : List (List UInt8) → List UInt8
  | [] => []
  | b :: r => encS b ++ encL r
theorem encL_app (a b : List (List UInt8)) : encL (a ++ b) = encL a ++ encL b := by
  induction a with
  | nil => rfl
  | cons x r ih => simp [encL, ih]
def enc (v : CV) : List UInt8 :=
  if v.k = 0 then uv v.u else if v.k = 1 then uv (zz v.i) else if v.k = 2 then [if v.b then 1 else 0] else if v.k = 3 then encS v.s else uv v.l.length ++ encL v.l
theorem enc0 {v : CV} (h : v.k = 0) : enc v = uv v.u := by simp [enc, h]
theorem enc1 {v : CV} (h : v.k = 1) : enc v = uv (zz v.i) := by simp [enc, h]
theorem enc2 {v : CV} (h : v.k = 2) : enc v = [if v.b then 1 else 0] := by simp [enc, h]
theorem enc3 {v : CV} (h : v.k = 3) : enc v = encS v.s := by simp [enc, h]
theorem enc4 {v : CV} (h0 : ¬ v.k = 0) (h1 : ¬ v.k = 1) (h2 : ¬ v.k = 2) (h3 : ¬ v.k = 3) : enc v = uv v.l.length ++ encL v.l := by simp [enc, h0, h1, h2, h3]
structure VOk (v : CV) : Prop where
  u : v.u < 18446744073709551616
  i1 : -9223372036854775808 ≤ v.i
  i2 : v.i ≤ 9223372036854775807
  s : v.s.length ≤ 1000000
  l : v.l.length ≤ 1000000
  e : (encL v.l).length ≤ 1000000000
theorem VOk.at {v : CV} (h : VOk v) (k : Nat) (hk : k < v.l.length) : (encL (v.l.take k)).length + (encS v.l[k]).length ≤ 1000000000 := by
  have h1 : v.l.take (k + 1) ++ v.l.drop (k + 1) = v.l := List.take_append_drop _ _
  have h2 := h.e
  rw [← h1, encL_app, List.take_succ_eq_append_getElem hk, encL_app] at h2
  simp only [List.length_append, encL, List.append_nil] at h2
  omega
theorem uint902 (n : Nat) (hn : n < 18446744073709551616) : ACalls Try.prog 35 [.d (.raw (.int .u64 (n : Int)))] [] fun r H' => r = .own 903 0 (uv n).length ∧ H' = [(903, [.rowD 5 1 ((uv n).map byteD)])] := (refUint_902 n hn).by [(902, 903)] rfl

set_option maxHeartbeats 1000000 in
theorem encode_902 (v : CV) (hv : VOk v) : ACalls Try.prog 15 [.d (vD v)] [] fun r H' => r = .own 902 0 (enc v).length ∧ H' = [(902, [.rowD 5 1 ((enc v).map byteD)])] := by
  have q1 := hv.u
  have q2 := hv.i1
  have q3 := hv.i2
  have q4 := hv.s
  have q5 := hv.l
  have q6 := zz_lt q2 q3
  have q7 := uv_len10 (show v.s.length < 18446744073709551616 by omega)
  have q8 := uv_len10 (show v.l.length < 18446744073709551616 by omega)
  refine a_enter Try.func15 rfl rfl Try.ntmps15 rfl rfl rfl fun F hF => ?_
  refine a_seq ?_
  refine a_region ?_
  refine Estep.go (st_box 1 rfl rfl rfl rfl rfl rfl rfl) ?_
  refine Pstep.go (st_assign rfl rfl) ?_
  refine o_nil ?_
  refine a_seq ?_
  refine a_seq ?_
  refine a_region ?_
  first | refine Pstep.go (st_fieldP rfl fi32_0 rfl rfl rfl) ?_ | refine Pstep.go (st_fieldF1 rfl fi32_0 rfl rfl rfl) ?_ | refine Pstep.go (st_fieldFS rfl fi32_0 rfl rfl rfl) ?_ | refine Pstep.go (st_fieldR rfl fi32_0 rfl rfl rfl) ?_
  first | refine Pstep.go (st_loadD1 rfl rfl on3 rfl) ?_ | refine Pstep.go (st_loadP rfl rfl rfl on3 rfl) ?_ | refine Pstep.go (st_loadR rfl rfl (rfl) rfl on3 rfl) ?_
  refine o_nil ?_
  refine a_block ?_
  refine a_seq ?_
  refine a_region ?_
  first | refine Pstep.go (st_eql rfl rfl rfl) ?_ | refine Pstep.go (st_eqlSL rfl rfl rfl) ?_ | refine Pstep.go (st_eqlS rfl rfl rfl) ?_ | refine Pstep.go (st_eqlB Try.underlying3 rfl rfl rfl) ?_ | refine Pstep.go (st_eqlP Try.underlying3 rfl rfl rfl) ?_ | refine Pstep.go (st_eqlN Try.underlying3 rfl rfl) ?_ | refine Pstep.go (st_eqlF Try.underlying3 rfl rfl rfl) ?_ | refine Pstep.go (st_eqlFN Try.underlying3 rfl rfl) ?_
  refine Pstep.go (st_assign rfl rfl) ?_
  refine o_nil ?_
  first | refine a_if rfl (fun h7 => ?_) (fun h7 => ?_) | refine a_cond rfl (fun h7 => ?_) (fun h7 => ?_)
  · refine a_seq ?_
    refine a_region ?_
    first | refine Pstep.go (st_fieldP rfl fi32_1 rfl rfl rfl) ?_ | refine Pstep.go (st_fieldF1 rfl fi32_1 rfl rfl rfl) ?_ | refine Pstep.go (st_fieldFS rfl fi32_1 rfl rfl rfl) ?_ | refine Pstep.go (st_fieldR rfl fi32_1 rfl rfl rfl) ?_
    first | refine Pstep.go (st_loadD1 rfl rfl on29 rfl) ?_ | refine Pstep.go (st_loadP rfl rfl rfl on29 rfl) ?_ | refine Pstep.go (st_loadR rfl rfl (rfl) rfl on29 rfl) ?_
    refine Estep.go (st_callD (refUint_902 v.u q1) rfl [902] ⟨rfl, trivial⟩ rfl rfl rfl rfl rfl rfl rfl rfl rfl) ?_
    refine Pstep.go (st_assign rfl rfl) ?_
    refine o_nil ?_
    refine a_ret ?_
    exact ⟨_, [902], _, res_of rfl, rfl, rfl, by rw [enc0 h7], by rw [enc0 h7]⟩
  · refine a_seq ?_
    refine a_region ?_
    first | refine Pstep.go (st_eql rfl rfl rfl) ?_ | refine Pstep.go (st_eqlSL rfl rfl rfl) ?_ | refine Pstep.go (st_eqlS rfl rfl rfl) ?_ | refine Pstep.go (st_eqlB Try.underlying3 rfl rfl rfl) ?_ | refine Pstep.go (st_eqlP Try.underlying3 rfl rfl rfl) ?_ | refine Pstep.go (st_eqlN Try.underlying3 rfl rfl) ?_ | refine Pstep.go (st_eqlF Try.underlying3 rfl rfl rfl) ?_ | refine Pstep.go (st_eqlFN Try.underlying3 rfl rfl) ?_
    refine Pstep.go (st_assign rfl rfl) ?_
    refine o_nil ?_
    first | refine a_if rfl (fun h12 => ?_) (fun h12 => ?_) | refine a_cond rfl (fun h12 => ?_) (fun h12 => ?_)
    · refine a_seq ?_
      refine a_region ?_
      first | refine Pstep.go (st_fieldP rfl fi32_2 rfl rfl rfl) ?_ | refine Pstep.go (st_fieldF1 rfl fi32_2 rfl rfl rfl) ?_ | refine Pstep.go (st_fieldFS rfl fi32_2 rfl rfl rfl) ?_ | refine Pstep.go (st_fieldR rfl fi32_2 rfl rfl rfl) ?_
      first | refine Pstep.go (st_loadD1 rfl rfl on2 rfl) ?_ | refine Pstep.go (st_loadP rfl rfl rfl on2 rfl) ?_ | refine Pstep.go (st_loadR rfl rfl (rfl) rfl on2 rfl) ?_
      refine Pstep.go (st_callP (zigzag_p v.i q2 q3) rfl rfl) ?_
      refine Estep.go (st_callD (refUint_902 (zz v.i) q6) rfl [902] ⟨rfl, trivial⟩ rfl rfl rfl rfl rfl rfl rfl rfl rfl) ?_
      refine Pstep.go (st_assign rfl rfl) ?_
      refine o_nil ?_
      refine a_ret ?_
      exact ⟨_, [902], _, res_of rfl, rfl, rfl, by rw [enc1 h12], by rw [enc1 h12]⟩
    · refine a_seq ?_
      refine a_region ?_
      first | refine Pstep.go (st_eql rfl rfl rfl) ?_ | refine Pstep.go (st_eqlSL rfl rfl rfl) ?_ | refine Pstep.go (st_eqlS rfl rfl rfl) ?_ | refine Pstep.go (st_eqlB Try.underlying3 rfl rfl rfl) ?_ | refine Pstep.go (st_eqlP Try.underlying3 rfl rfl rfl) ?_ | refine Pstep.go (st_eqlN Try.underlying3 rfl rfl) ?_ | refine Pstep.go (st_eqlF Try.underlying3 rfl rfl rfl) ?_ | refine Pstep.go (st_eqlFN Try.underlying3 rfl rfl) ?_
      refine Pstep.go (st_assign rfl rfl) ?_
      refine o_nil ?_
      first | refine a_if rfl (fun h18 => ?_) (fun h18 => ?_) | refine a_cond rfl (fun h18 => ?_) (fun h18 => ?_)
      · refine a_seq ?_
        refine a_seq ?_
        refine a_region ?_
        first | refine Pstep.go (st_fieldP rfl fi32_3 rfl rfl rfl) ?_ | refine Pstep.go (st_fieldF1 rfl fi32_3 rfl rfl rfl) ?_ | refine Pstep.go (st_fieldFS rfl fi32_3 rfl rfl rfl) ?_ | refine Pstep.go (st_fieldR rfl fi32_3 rfl rfl rfl) ?_
        first | refine Pstep.go (st_loadD1 rfl rfl on4 rfl) ?_ | refine Pstep.go (st_loadP rfl rfl rfl on4 rfl) ?_ | refine Pstep.go (st_loadR rfl rfl (rfl) rfl on4 rfl) ?_
        refine o_nil ?_
        first | refine a_if rfl (fun h21 => ?_) (fun h21 => ?_) | refine a_cond rfl (fun h21 => ?_) (fun h21 => ?_)
        · refine a_seq ?_
          refine a_region ?_
          refine Estep.go (st_buildSlice 902 sl27 rfl rfl rfl rfl rfl rfl rfl rfl) ?_
          refine Pstep.go (st_assign rfl rfl) ?_
          refine o_nil ?_
          refine a_ret ?_
          exact ⟨_, [902], _, res_of rfl, rfl, rfl, by rw [enc2 h18, h21]; rfl, by rw [enc2 h18, h21]; rfl⟩
        · refine a_skip ?_
          refine a_seq ?_
          refine a_region ?_
          refine Estep.go (st_buildSlice 902 sl27 rfl rfl rfl rfl rfl rfl rfl rfl) ?_
          refine Pstep.go (st_assign rfl rfl) ?_
          refine o_nil ?_
          refine a_ret ?_
          exact ⟨_, [902], _, res_of rfl, rfl, rfl, by rw [enc2 h18, h21]; rfl, by rw [enc2 h18, h21]; rfl⟩
      · refine a_seq ?_
        refine a_region ?_
        first | refine Pstep.go (st_eql rfl rfl rfl) ?_ | refine Pstep.go (st_eqlSL rfl rfl rfl) ?_ | refine Pstep.go (st_eqlS rfl rfl rfl) ?_ | refine Pstep.go (st_eqlB Try.underlying3 rfl rfl rfl) ?_ | refine Pstep.go (st_eqlP Try.underlying3 rfl rfl rfl) ?_ | refine Pstep.go (st_eqlN Try.underlying3 rfl rfl) ?_ | refine Pstep.go (st_eqlF Try.underlying3 rfl rfl rfl) ?_ | refine Pstep.go (st_eqlFN Try.underlying3 rfl rfl) ?_
        refine Pstep.go (st_assign rfl rfl) ?_
        refine o_nil ?_
        first | refine a_if rfl (fun h24 => ?_) (fun h24 => ?_) | refine a_cond rfl (fun h24 => ?_) (fun h24 => ?_)
        · refine a_seq ?_
          refine a_drawn [[], [0], [0, 1], [0, 1, 2], [0, 1, 2, 3], [], [5], [0, 1, 2, 3, 4, 5, 6], [0, 1, 2, 3, 4, 5, 6, 7]] mixed rfl ?_
          refine dws ?_
          first | refine d_pure [1] [] rfl rfl (fun _ => gp_none (st_fieldP rfl fi32_4 rfl rfl rfl)) ?_ | refine d_pureA [1] rfl rfl (fun _ => gp_none (st_fieldP rfl fi32_4 rfl rfl rfl)) ?_ | refine d_pure [1] [] rfl rfl (fun _ => gp_none (st_fieldF1 rfl fi32_4 rfl rfl rfl)) ?_ | refine d_pureA [1] rfl rfl (fun _ => gp_none (st_fieldF1 rfl fi32_4 rfl rfl rfl)) ?_ | refine d_pure [1] [] rfl rfl (fun _ => gp_none (st_fieldFS rfl fi32_4 rfl rfl rfl)) ?_ | refine d_pureA [1] rfl rfl (fun _ => gp_none (st_fieldFS rfl fi32_4 rfl rfl rfl)) ?_ | refine d_pure [1] [] rfl rfl (fun _ => gp_none (st_fieldR rfl fi32_4 rfl rfl rfl)) ?_ | refine d_pureA [1] rfl rfl (fun _ => gp_none (st_fieldR rfl fi32_4 rfl rfl rfl)) ?_
          first | refine d_pure [26] [] rfl rfl (fun _ => gp_none (st_loadD1 rfl rfl on9 rfl)) ?_ | refine d_pureA [26] rfl rfl (fun _ => gp_none (st_loadD1 rfl rfl on9 rfl)) ?_ | refine d_pure [26] [] rfl rfl (fun _ => gp_none (st_loadP rfl rfl rfl on9 rfl)) ?_ | refine d_pureA [26] rfl rfl (fun _ => gp_none (st_loadP rfl rfl rfl on9 rfl)) ?_ | refine d_pure [26] [] rfl rfl (fun _ => gp_none (st_loadR rfl rfl (rfl) rfl on9 rfl)) ?_ | refine d_pureA [26] rfl rfl (fun _ => gp_none (st_loadR rfl rfl (rfl) rfl on9 rfl)) ?_
          first | refine d_pure [27] [] rfl rfl (fun _ => gp_none (st_lenMap rfl Try.underlying9 rfl)) ?_ | refine d_pureA [27] rfl rfl (fun _ => gp_none (st_lenMap rfl Try.underlying9 rfl)) ?_ | refine d_pure [27] [] rfl rfl (fun _ => gp_none (st_lenD rfl rfl Try.underlying9 rfl)) ?_ | refine d_pureA [27] rfl rfl (fun _ => gp_none (st_lenD rfl rfl Try.underlying9 rfl)) ?_ | refine d_pure [27] [] rfl rfl (fun _ => gp_none (st_lenO rfl Try.underlying9 rfl)) ?_ | refine d_pureA [27] rfl rfl (fun _ => gp_none (st_lenO rfl Try.underlying9 rfl)) ?_ | refine d_pure [27] [] rfl rfl (fun _ => gp_none (st_lenSL rfl Try.underlying9 rfl)) ?_ | refine d_pureA [27] rfl rfl (fun _ => gp_none (st_lenSL rfl Try.underlying9 rfl)) ?_ | refine d_pure [27] [] rfl rfl (fun _ => gp_none (st_lenS rfl Try.underlying9 rfl)) ?_ | refine d_pureA [27] rfl rfl (fun _ => gp_none (st_lenS rfl Try.underlying9 rfl)) ?_
          first | refine d_pure [28] [] rfl rfl (fun _ => gp_none (st_conv rfl Try.underlying3 Try.underlying29 (wrap64n v.s.length (by omega)) rfl)) ?_ | refine d_pureA [28] rfl rfl (fun _ => gp_none (st_conv rfl Try.underlying3 Try.underlying29 (wrap64n v.s.length (by omega)) rfl)) ?_
          refine d_eff [29] [902] [(30, _)] rfl rfl (fun _ => ge_none (st_callD (refUint_902 v.s.length (by omega)) rfl [902] ⟨rfl, trivial⟩ rfl rfl rfl rfl rfl rfl rfl rfl rfl)) (.inr ⟨30, _, rfl, rfl, rfl, rfl, rfl⟩) rfl rfl rfl rfl rfl ?_
          first | refine d_pure [1] [] rfl rfl (fun _ => gp_none (st_fieldP rfl fi32_4 rfl rfl rfl)) ?_ | refine d_pureA [1] rfl rfl (fun _ => gp_none (st_fieldP rfl fi32_4 rfl rfl rfl)) ?_ | refine d_pure [1] [] rfl rfl (fun _ => gp_none (st_fieldF1 rfl fi32_4 rfl rfl rfl)) ?_ | refine d_pureA [1] rfl rfl (fun _ => gp_none (st_fieldF1 rfl fi32_4 rfl rfl rfl)) ?_ | refine d_pure [1] [] rfl rfl (fun _ => gp_none (st_fieldFS rfl fi32_4 rfl rfl rfl)) ?_ | refine d_pureA [1] rfl rfl (fun _ => gp_none (st_fieldFS rfl fi32_4 rfl rfl rfl)) ?_ | refine d_pure [1] [] rfl rfl (fun _ => gp_none (st_fieldR rfl fi32_4 rfl rfl rfl)) ?_ | refine d_pureA [1] rfl rfl (fun _ => gp_none (st_fieldR rfl fi32_4 rfl rfl rfl)) ?_
          first | refine d_pure [31] [] rfl rfl (fun _ => gp_none (st_loadD1 rfl rfl on9 rfl)) ?_ | refine d_pureA [31] rfl rfl (fun _ => gp_none (st_loadD1 rfl rfl on9 rfl)) ?_ | refine d_pure [31] [] rfl rfl (fun _ => gp_none (st_loadP rfl rfl rfl on9 rfl)) ?_ | refine d_pureA [31] rfl rfl (fun _ => gp_none (st_loadP rfl rfl rfl on9 rfl)) ?_ | refine d_pure [31] [] rfl rfl (fun _ => gp_none (st_loadR rfl rfl (rfl) rfl on9 rfl)) ?_ | refine d_pureA [31] rfl rfl (fun _ => gp_none (st_loadR rfl rfl (rfl) rfl on9 rfl)) ?_
          refine dwc 7 rfl rfl rfl ?_
          refine dw1 8 rfl rfl ?_
          refine Estep.go (st_appMS (uv v.s.length) (v.s) rfl rfl rfl rfl rfl sl27 Try.underlying9 (by omega) rfl rfl rfl rfl) ?_
          refine o_nil ⟨rfl, ?_⟩
          refine dw1 9 rfl rfl ?_
          refine Pstep.go (st_assign rfl rfl) ?_
          refine o_nil ⟨rfl, ?_⟩
          refine dwe ?_
          refine a_ret ?_
          exact ⟨_, [902], _, res_of rfl, rfl, rfl, by rw [enc3 h24]; rfl, by rw [enc3 h24]; rfl⟩
        · refine a_skip ?_
          refine a_seq ?_
          refine a_region ?_
          first | refine Pstep.go (st_fieldP rfl fi32_5 rfl rfl rfl) ?_ | refine Pstep.go (st_fieldF1 rfl fi32_5 rfl rfl rfl) ?_ | refine Pstep.go (st_fieldFS rfl fi32_5 rfl rfl rfl) ?_ | refine Pstep.go (st_fieldR rfl fi32_5 rfl rfl rfl) ?_
          first | refine Pstep.go (st_loadD1 rfl rfl on30 rfl) ?_ | refine Pstep.go (st_loadP rfl rfl rfl on30 rfl) ?_ | refine Pstep.go (st_loadR rfl rfl (rfl) rfl on30 rfl) ?_
          first | refine Pstep.go (st_lenMap rfl Try.underlying30 rfl) ?_ | refine Pstep.go (st_lenD rfl rfl Try.underlying30 rfl) ?_ | refine Pstep.go (st_lenO rfl Try.underlying30 rfl) ?_ | refine Pstep.go (st_lenSL rfl Try.underlying30 rfl) ?_ | refine Pstep.go (st_lenS rfl Try.underlying30 rfl) ?_
          refine Pstep.go (st_conv rfl Try.underlying3 Try.underlying29 (wrap64n v.l.length (by omega)) rfl) ?_
          refine Estep.go (st_callD (refUint_902 v.l.length (by omega)) rfl [902] ⟨rfl, trivial⟩ rfl rfl rfl rfl rfl rfl rfl rfl rfl) ?_
          refine Pstep.go (st_assign rfl rfl) ?_
          refine o_nil ?_
          refine a_seq ?_
          refine a_seq ?_
          refine a_region ?_
          refine Pstep.go (st_assign rfl rfl) ?_
          refine o_nil ?_
          refine a_block ?_
          refine a_loopP (α := Nat × List UInt8) (fun p => ⟨64, [(1, .ptr 1 0 0), (3, (.own 902 0 p.2.length)), (4, (.d (.raw (.int .i64 (p.1 : Int)))))], [(1, [.blk 32 [.d (.raw (.int .i64 v.k)), .d (.raw (.int .u64 (v.u : Int))), .d (.raw (.int .i64 v.i)), .d (.raw (.bool v.b)), .d (strD v.s), .d (strsD v.l)]]), (902, [.rowD 5 1 (p.2.map byteD)])]⟩) (fun p => p.1 ≤ v.l.length ∧ p.2 = uv v.l.length ++ encL (v.l.take p.1)) (fun p => v.l.length - p.1) ((0, uv v.l.length)) (⟨Nat.zero_le _, by simp [encL]⟩) (lep_of hF [1, 902] rfl rfl ⟨rfl, rfl, rfl, trivial⟩) ?_
          rintro ⟨k, m⟩ ⟨hk0, hm⟩
          dsimp only at hk0 hm ⊢
          refine a_seq ?_
          refine a_seq ?_
          refine a_region ?_
          refine Pstep.go (st_move rfl rfl) ?_
          first | refine Pstep.go (st_fieldP rfl fi32_5 rfl rfl rfl) ?_ | refine Pstep.go (st_fieldF1 rfl fi32_5 rfl rfl rfl) ?_ | refine Pstep.go (st_fieldFS rfl fi32_5 rfl rfl rfl) ?_ | refine Pstep.go (st_fieldR rfl fi32_5 rfl rfl rfl) ?_
          first | refine Pstep.go (st_loadD1 rfl rfl on30 rfl) ?_ | refine Pstep.go (st_loadP rfl rfl rfl on30 rfl) ?_ | refine Pstep.go (st_loadR rfl rfl (rfl) rfl on30 rfl) ?_
          first | refine Pstep.go (st_lenMap rfl Try.underlying30 rfl) ?_ | refine Pstep.go (st_lenD rfl rfl Try.underlying30 rfl) ?_ | refine Pstep.go (st_lenO rfl Try.underlying30 rfl) ?_ | refine Pstep.go (st_lenSL rfl Try.underlying30 rfl) ?_ | refine Pstep.go (st_lenS rfl Try.underlying30 rfl) ?_
          first | refine Pstep.go (st_lss rfl rfl rfl) ?_ | refine Pstep.go (st_lssS rfl rfl rfl) ?_
          refine o_nil ?_
          first | refine a_if rfl (fun h43 => ?_) (fun h43 => ?_) | refine a_cond rfl (fun h43 => ?_) (fun h43 => ?_)
          · refine a_skip ?_
            refine a_seq ?_
            refine a_block ?_
            refine a_seq ?_
            refine a_region ?_
            have hk : k < v.l.length := lt_cast h43
            have hb := hv.at k hk
            have q9 : (encS v.l[k]).length = (uv v.l[k].length).length + v.l[k].length := by simp [encS]
            have q10 : m.length = (uv v.l.length).length + (encL (v.l.take k)).length := by rw [hm, List.length_append]
            refine Pstep.go (st_move rfl rfl) ?_
            first | refine Pstep.go (st_fieldP rfl fi32_5 rfl rfl rfl) ?_ | refine Pstep.go (st_fieldF1 rfl fi32_5 rfl rfl rfl) ?_ | refine Pstep.go (st_fieldFS rfl fi32_5 rfl rfl rfl) ?_ | refine Pstep.go (st_fieldR rfl fi32_5 rfl rfl rfl) ?_
            first | refine Pstep.go (st_loadD1 rfl rfl on30 rfl) ?_ | refine Pstep.go (st_loadP rfl rfl rfl on30 rfl) ?_ | refine Pstep.go (st_loadR rfl rfl (rfl) rfl on30 rfl) ?_
            refine Pstep.go (st_move rfl rfl) ?_
            first | refine Pstep.go (st_indexD (k) rfl rfl (rfl) (getm (lt_cast h43)) Try.underlying30 rfl sz9 rfl) ?_ | refine Pstep.go (st_indexO (k) rfl rfl (rfl) (getm (lt_cast h43)) rfl Try.underlying30 sz9 rfl) ?_
            first | refine Pstep.go (st_loadD1 rfl rfl on9 rfl) ?_ | refine Pstep.go (st_loadP rfl rfl rfl on9 rfl) ?_ | refine Pstep.go (st_loadR rfl rfl (rfl) rfl on9 rfl) ?_
            first | refine Pstep.go (st_lenMap rfl Try.underlying9 rfl) ?_ | refine Pstep.go (st_lenD rfl rfl Try.underlying9 rfl) ?_ | refine Pstep.go (st_lenO rfl Try.underlying9 rfl) ?_ | refine Pstep.go (st_lenSL rfl Try.underlying9 rfl) ?_ | refine Pstep.go (st_lenS rfl Try.underlying9 rfl) ?_
            refine Pstep.go (st_conv rfl Try.underlying3 Try.underlying29 (wrap64n v.l[k].length (by omega)) rfl) ?_
            refine Estep.go (st_callD (uint902 v.l[k].length (by omega)) rfl [903] ⟨rfl, trivial⟩ rfl rfl rfl rfl rfl rfl rfl rfl rfl) ?_
            first | refine Estep.go (st_appM (m) (uv v.l[k].length) rfl rfl rfl rfl rfl rfl rfl rfl sl27 (by first | omega | (simp only [List.length_append, List.length_cons, List.length_nil]; omega)) rfl rfl rfl rfl) ?_ | refine Estep.go (st_appMD (m) (uv v.l[k].length) rfl rfl rfl rfl rfl rfl (fun _ => rfl) sl27 (by first | omega | (simp only [List.length_append, List.length_cons, List.length_nil]; omega)) rfl rfl rfl rfl) ?_
            refine Pstep.go (st_assign rfl rfl) ?_
            refine o_nil ?_
            refine a_region ?_
            refine Pstep.go (st_move rfl rfl) ?_
            first | refine Pstep.go (st_fieldP rfl fi32_5 rfl rfl rfl) ?_ | refine Pstep.go (st_fieldF1 rfl fi32_5 rfl rfl rfl) ?_ | refine Pstep.go (st_fieldFS rfl fi32_5 rfl rfl rfl) ?_ | refine Pstep.go (st_fieldR rfl fi32_5 rfl rfl rfl) ?_
            first | refine Pstep.go (st_loadD1 rfl rfl on30 rfl) ?_ | refine Pstep.go (st_loadP rfl rfl rfl on30 rfl) ?_ | refine Pstep.go (st_loadR rfl rfl (rfl) rfl on30 rfl) ?_
            refine Pstep.go (st_move rfl rfl) ?_
            first | refine Pstep.go (st_indexD (k) rfl rfl (rfl) (getm (lt_cast h43)) Try.underlying30 rfl sz9 rfl) ?_ | refine Pstep.go (st_indexO (k) rfl rfl (rfl) (getm (lt_cast h43)) rfl Try.underlying30 sz9 rfl) ?_
            first | refine Pstep.go (st_loadD1 rfl rfl on9 rfl) ?_ | refine Pstep.go (st_loadP rfl rfl rfl on9 rfl) ?_ | refine Pstep.go (st_loadR rfl rfl (rfl) rfl on9 rfl) ?_
            refine Estep.go (st_appMS (m ++ uv v.l[k].length) (v.l[k]) rfl rfl rfl rfl rfl sl27 Try.underlying9 (by first | omega | (simp only [List.length_append, List.length_cons, List.length_nil]; omega)) rfl rfl rfl rfl) ?_
            refine Pstep.go (st_assign rfl rfl) ?_
            refine o_nil ?_
            refine a_region ?_
            refine Pstep.go (st_move rfl rfl) ?_
            refine Pstep.go (st_add rfl rfl (IntWalk.i64_in _ (by omega)) rfl) ?_
            refine Pstep.go (st_assign rfl rfl) ?_
            refine o_nil ?_
            exact ⟨(k + 1, (m ++ uv v.l[k].length) ++ v.l[k]), ⟨by show k + 1 ≤ _; omega, by show _ = uv v.l.length ++ encL (v.l.take (k + 1)); rw [List.take_succ_eq_append_getElem hk, encL_app, hm]; simp [encL, encS]⟩, by show v.l.length - (k + 1) < v.l.length - k; omega, lep_of hF [1, 902] rfl (rfl) ⟨rfl, rfl, rfl, trivial⟩⟩
          · refine a_exit ?_
            refine a_seq ?_
            refine a_region ?_
            refine Pstep.go (st_move rfl rfl) ?_
            refine Pstep.go (st_assign rfl rfl) ?_
            refine o_nil ?_
            refine a_ret ?_
            have hme : m = enc v := by rw [hm, List.take_of_length_le (by omega), enc4 h7 h12 h18 h24]
            subst hme
            exact ⟨_, [902], _, res_of rfl, rfl, rfl, rfl, rfl⟩
end Go.Proofs.Ytjbghmlofjkcfaa
