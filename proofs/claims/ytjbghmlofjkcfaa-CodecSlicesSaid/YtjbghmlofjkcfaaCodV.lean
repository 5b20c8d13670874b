/- The walks of the law's own writers: putString, WriteSlice, put. -/
import Derived.Test.YtjbghmlofjkcfaaCodP
namespace Go.Proofs.Ytjbghmlofjkcfaa
open Go.RowKit

theorem putString_900 (l b : List UInt8) (hl : l.length + b.length ≤ 140737488355200) : ACalls Try.prog 31 [.ptr 900 0 0, .d (strD b)] (wH 900 901 l) fun r H' => r = .tup [] ∧ H' = wH 900 901 (l ++ encS b) := by
  refine a_enter Try.func31 rfl rfl Try.ntmps31 rfl rfl rfl fun F hF => ?_
  refine a_region ?_
  refine Pstep.go (st_move rfl rfl) ?_
  refine Pstep.go (st_move rfl rfl) ?_
  refine Estep.go (st_callD (wString_900 l b hl) rfl [900, 901] ⟨rfl, rfl, trivial⟩ rfl rfl rfl rfl rfl rfl rfl rfl rfl) ?_
  refine o_nil ?_
  exact ⟨_, [900, 901], _, res_of rfl, rfl, rfl, rfl, by rw [List.append_assoc]; rfl⟩
abbrev fnD (f : Nat) : D := .raw (.func (.func f) #[] #[])
theorem encL_at (l : List (List UInt8)) (k : Nat) (hk : k < l.length) : encL (l.take (k + 1)) = encL (l.take k) ++ encS l[k] ∧ (encL (l.take k)).length + (encS l[k]).length ≤ (encL l).length := by
  have h0 : encL (l.take (k + 1)) = encL (l.take k) ++ encS l[k] := by rw [List.take_succ_eq_append_getElem hk, encL_app]; simp [encL]
  refine ⟨h0, ?_⟩
  have h1 : l.take (k + 1) ++ l.drop (k + 1) = l := List.take_append_drop _ _
  have h2 : (encL l).length = (encL (l.take (k + 1)) ++ encL (l.drop (k + 1))).length := by rw [← encL_app, h1]
  rw [h0] at h2
  simp only [List.length_append] at h2
  omega
theorem writeSlice_900 (m : List UInt8) (l : List (List UInt8)) (hm : m.length ≤ 1000000000000) (hl : l.length ≤ 1000000000) (he : (encL l).length ≤ 1000000000) : ACalls Try.prog 30 [.ptr 900 0 0, .d (strsD l), .d (fnD 31)] (wH 900 901 m) fun r H' => r = .tup [] ∧ H' = wH 900 901 (m ++ (uv l.length ++ encL l)) := by
  have q8 := uv_len10 (show l.length < 18446744073709551616 by omega)
  refine a_enter Try.func30 rfl rfl Try.ntmps30 rfl rfl rfl fun F hF => ?_
  refine a_seq ?_
  refine a_seq ?_
  refine a_region ?_
  refine Pstep.go (st_move rfl rfl) ?_
  first | refine Pstep.go (st_eql rfl rfl rfl) ?_ | refine Pstep.go (st_eqlSL rfl rfl rfl) ?_ | refine Pstep.go (st_eqlS rfl rfl rfl) ?_ | refine Pstep.go (st_eqlB Try.underlying25 rfl rfl rfl) ?_ | refine Pstep.go (st_eqlP Try.underlying25 rfl rfl rfl) ?_ | refine Pstep.go (st_eqlN Try.underlying25 rfl rfl) ?_ | refine Pstep.go (st_eqlF Try.underlying25 rfl rfl rfl) ?_ | refine Pstep.go (st_eqlFN Try.underlying25 rfl rfl) ?_
  refine o_nil ?_
  refine a_false rfl (rfl) ?_
  refine a_skip ?_
  refine a_seq ?_
  refine a_region ?_
  refine Pstep.go (st_move rfl rfl) ?_
  refine Pstep.go (st_move rfl rfl) ?_
  first | refine Pstep.go (st_lenMap rfl Try.underlying30 rfl) ?_ | refine Pstep.go (st_lenD rfl rfl Try.underlying30 rfl) ?_ | refine Pstep.go (st_lenO rfl Try.underlying30 rfl) ?_ | refine Pstep.go (st_lenSL rfl Try.underlying30 rfl) ?_ | refine Pstep.go (st_lenS rfl Try.underlying30 rfl) ?_
  refine Pstep.go (st_conv rfl Try.underlying3 Try.underlying29 (wrap64n l.length (by omega)) rfl) ?_
  refine Estep.go (st_callD (wUint_900 m l.length (by omega) (by omega)) rfl [900, 901] ⟨rfl, rfl, trivial⟩ rfl rfl rfl rfl rfl rfl rfl rfl rfl) ?_
  refine o_nil ?_
  refine a_seq ?_
  refine a_seq ?_
  refine a_region ?_
  refine Pstep.go (st_move rfl rfl) ?_
  first | refine Pstep.go (st_eql rfl rfl rfl) ?_ | refine Pstep.go (st_eqlSL rfl rfl rfl) ?_ | refine Pstep.go (st_eqlS rfl rfl rfl) ?_ | refine Pstep.go (st_eqlB Try.underlying49 rfl rfl rfl) ?_ | refine Pstep.go (st_eqlP Try.underlying49 rfl rfl rfl) ?_ | refine Pstep.go (st_eqlN Try.underlying49 rfl rfl) ?_ | refine Pstep.go (st_eqlF Try.underlying49 rfl rfl rfl) ?_ | refine Pstep.go (st_eqlFN Try.underlying49 rfl rfl) ?_
  refine o_nil ?_
  refine a_false rfl (rfl) ?_
  refine a_skip ?_
  refine a_seq ?_
  refine a_region ?_
  refine Pstep.go (st_move rfl rfl) ?_
  first | refine Pstep.go (st_lenMap rfl Try.underlying30 rfl) ?_ | refine Pstep.go (st_lenD rfl rfl Try.underlying30 rfl) ?_ | refine Pstep.go (st_lenO rfl Try.underlying30 rfl) ?_ | refine Pstep.go (st_lenSL rfl Try.underlying30 rfl) ?_ | refine Pstep.go (st_lenS rfl Try.underlying30 rfl) ?_
  refine Pstep.go (st_move rfl rfl) ?_
  refine o_nil ?_
  refine a_block ?_
  refine a_loopP (α := Nat × List UInt8) (fun p => ⟨28, [(0, .ptr 900 0 0), (2, .d (fnD 31)), (17, (.d (strsD l))), (18, (.d (.raw (.int .i64 (l.length : Int))))), (19, (.d (.raw (.int .i64 (p.1 : Int)))))], wH 900 901 p.2⟩) (fun p => p.1 ≤ l.length ∧ p.2 = m ++ uv l.length ++ encL (l.take p.1)) (fun p => l.length - p.1) ((0, m ++ uv l.length)) (⟨Nat.zero_le _, by simp [encL]⟩) (lep_of hF [900, 901] rfl rfl ⟨rfl, rfl, rfl, rfl, rfl, trivial⟩) ?_
  rintro ⟨k, z⟩ ⟨hk0, hz⟩
  dsimp only at hk0 hz ⊢
  refine a_seq ?_
  refine a_region ?_
  first | refine Pstep.go (st_lss rfl rfl rfl) ?_ | refine Pstep.go (st_lssS rfl rfl rfl) ?_
  refine o_nil ?_
  refine a_seq ?_
  first | refine a_if rfl (fun h20 => ?_) (fun h20 => ?_) | refine a_cond rfl (fun h20 => ?_) (fun h20 => ?_)
  · refine a_skip ?_
    refine a_seq ?_
    refine a_block ?_
    refine a_seq ?_
    refine a_region ?_
    have hk : k < l.length := lt_cast h20
    obtain ⟨hk1, hk2⟩ := encL_at l k hk
    have hs1 : (encS l[k]).length = (uv l[k].length).length + l[k].length := by simp [encS]
    have hzl : z.length = m.length + (uv l.length).length + (encL (l.take k)).length := by rw [hz, List.length_append, List.length_append]
    first | refine Pstep.go (st_indexD (k) rfl rfl (rfl) (getm hk) Try.underlying30 rfl sz9 rfl) ?_ | refine Pstep.go (st_indexO (k) rfl rfl (rfl) (getm hk) rfl Try.underlying30 sz9 rfl) ?_
    first | refine Pstep.go (st_loadD1 rfl rfl on9 rfl) ?_ | refine Pstep.go (st_loadP rfl rfl rfl on9 rfl) ?_ | refine Pstep.go (st_loadR rfl rfl (rfl) rfl on9 rfl) ?_
    refine Pstep.go (st_assign rfl rfl) ?_
    refine o_nil ?_
    refine a_region ?_
    refine Pstep.go (st_move rfl rfl) ?_
    refine Pstep.go (st_move rfl rfl) ?_
    refine Pstep.go (st_move rfl rfl) ?_
    refine Estep.go (st_callVD (putString_900 z l[k] (by omega)) rfl [900, 901] ⟨rfl, rfl, trivial⟩ rfl rfl rfl rfl rfl rfl rfl rfl rfl) ?_
    refine o_nil ?_
    refine a_region ?_
    refine Pstep.go (st_add rfl rfl (IntWalk.i64_in _ (by omega)) rfl) ?_
    refine Pstep.go (st_move rfl rfl) ?_
    refine o_nil ?_
    exact ⟨(k + 1, z ++ encS l[k]), ⟨by show k + 1 ≤ _; omega, by show _ = m ++ uv l.length ++ encL (l.take (k + 1)); rw [hk1, hz, List.append_assoc]⟩, by show l.length - (k + 1) < l.length - k; omega, lep_of hF [900, 901] rfl (rfl) ⟨rfl, rfl, rfl, rfl, rfl, trivial⟩⟩
  · refine a_exit ?_
    have hze : z = m ++ (uv l.length ++ encL l) := by rw [hz, List.take_of_length_le (by omega), List.append_assoc]
    subst hze
    exact ⟨_, [900, 901], _, res_of rfl, rfl, rfl, rfl, rfl⟩
/-- With no function, the number alone is written. -/
theorem writeSlice_nil (m : List UInt8) (l : List (List UInt8)) (hm : m.length ≤ 1000000000000) (hl : l.length ≤ 1000000000) : ACalls Try.prog 30 [.ptr 900 0 0, .d (strsD l), .d (.raw .nilFunc)] (wH 900 901 m) fun r H' => r = .tup [] ∧ H' = wH 900 901 (m ++ uv l.length) := by
  have q8 := uv_len10 (show l.length < 18446744073709551616 by omega)
  refine a_enter Try.func30 rfl rfl Try.ntmps30 rfl rfl rfl fun F hF => ?_
  refine a_seq ?_
  refine a_seq ?_
  refine a_region ?_
  refine Pstep.go (st_move rfl rfl) ?_
  first | refine Pstep.go (st_eql rfl rfl rfl) ?_ | refine Pstep.go (st_eqlSL rfl rfl rfl) ?_ | refine Pstep.go (st_eqlS rfl rfl rfl) ?_ | refine Pstep.go (st_eqlB Try.underlying25 rfl rfl rfl) ?_ | refine Pstep.go (st_eqlP Try.underlying25 rfl rfl rfl) ?_ | refine Pstep.go (st_eqlN Try.underlying25 rfl rfl) ?_ | refine Pstep.go (st_eqlF Try.underlying25 rfl rfl rfl) ?_ | refine Pstep.go (st_eqlFN Try.underlying25 rfl rfl) ?_
  refine o_nil ?_
  refine a_false rfl (rfl) ?_
  refine a_skip ?_
  refine a_seq ?_
  refine a_region ?_
  refine Pstep.go (st_move rfl rfl) ?_
  refine Pstep.go (st_move rfl rfl) ?_
  first | refine Pstep.go (st_lenMap rfl Try.underlying30 rfl) ?_ | refine Pstep.go (st_lenD rfl rfl Try.underlying30 rfl) ?_ | refine Pstep.go (st_lenO rfl Try.underlying30 rfl) ?_ | refine Pstep.go (st_lenSL rfl Try.underlying30 rfl) ?_ | refine Pstep.go (st_lenS rfl Try.underlying30 rfl) ?_
  refine Pstep.go (st_conv rfl Try.underlying3 Try.underlying29 (wrap64n l.length (by omega)) rfl) ?_
  refine Estep.go (st_callD (wUint_900 m l.length (by omega) (by omega)) rfl [900, 901] ⟨rfl, rfl, trivial⟩ rfl rfl rfl rfl rfl rfl rfl rfl rfl) ?_
  refine o_nil ?_
  refine a_seq ?_
  refine a_seq ?_
  refine a_region ?_
  refine Pstep.go (st_move rfl rfl) ?_
  first | refine Pstep.go (st_eql rfl rfl rfl) ?_ | refine Pstep.go (st_eqlSL rfl rfl rfl) ?_ | refine Pstep.go (st_eqlS rfl rfl rfl) ?_ | refine Pstep.go (st_eqlB Try.underlying49 rfl rfl rfl) ?_ | refine Pstep.go (st_eqlP Try.underlying49 rfl rfl rfl) ?_ | refine Pstep.go (st_eqlN Try.underlying49 rfl rfl) ?_ | refine Pstep.go (st_eqlF Try.underlying49 rfl rfl rfl) ?_ | refine Pstep.go (st_eqlFN Try.underlying49 rfl rfl) ?_
  refine o_nil ?_
  refine a_true rfl (rfl) ?_
  refine a_ret ?_
  exact ⟨_, [900, 901], _, res_of rfl, rfl, rfl, rfl, rfl⟩
theorem uvb (b : Bool) : uv (if b = true then 1 else 0) = [if b = true then 1 else 0] := by cases b <;> (rw [uv_lt (by decide)]; rfl)
theorem put_900 (m : List UInt8) (v : CV) (blob : Bool) (hv : VOk v) (hm : m.length ≤ 1000000000000) : ACalls Try.prog 14 [.ptr 900 0 0, .d (vD v), .d (.raw (.bool blob))] (wH 900 901 m) fun r H' => r = .tup [] ∧ H' = wH 900 901 (m ++ enc (pureC v)) := by
  have q1 := hv.u
  have q2 := hv.i1
  have q3 := hv.i2
  have q4 := hv.s
  have q5 := hv.l
  have q6 := hv.e
  refine a_enter Try.func14 rfl rfl Try.ntmps14 rfl rfl rfl fun F hF => ?_
  refine a_seq ?_
  refine a_region ?_
  refine Estep.go (st_box 1 rfl rfl rfl rfl rfl rfl rfl) ?_
  refine o_nil ?_
  refine a_seq ?_
  refine a_region ?_
  first | refine Pstep.go (st_fieldP rfl fi32_0 rfl rfl rfl) ?_ | refine Pstep.go (st_fieldF1 rfl fi32_0 rfl rfl rfl) ?_ | refine Pstep.go (st_fieldFS rfl fi32_0 rfl rfl rfl) ?_ | refine Pstep.go (st_fieldR rfl fi32_0 rfl rfl rfl) ?_
  first | refine Pstep.go (st_loadD1 rfl rfl on3 rfl) ?_ | refine Pstep.go (st_loadP rfl rfl rfl on3 rfl) ?_ | refine Pstep.go (st_loadR rfl rfl (rfl) rfl on3 rfl) ?_
  refine o_nil ?_
  refine a_block ?_
  refine a_seq ?_
  refine a_region ?_
  first | refine Pstep.go (st_eql rfl rfl rfl) ?_ | refine Pstep.go (st_eqlSL rfl rfl rfl) ?_ | refine Pstep.go (st_eqlS rfl rfl rfl) ?_ | refine Pstep.go (st_eqlB Try.underlying3 rfl rfl rfl) ?_ | refine Pstep.go (st_eqlP Try.underlying3 rfl rfl rfl) ?_ | refine Pstep.go (st_eqlN Try.underlying3 rfl rfl) ?_ | refine Pstep.go (st_eqlF Try.underlying3 rfl rfl rfl) ?_ | refine Pstep.go (st_eqlFN Try.underlying3 rfl rfl) ?_
  refine Pstep.go (st_assign rfl rfl) ?_
  refine o_nil ?_
  first | refine a_if rfl (fun h12 => ?_) (fun h12 => ?_) | refine a_cond rfl (fun h12 => ?_) (fun h12 => ?_)
  · refine a_region ?_
    refine Pstep.go (st_move rfl rfl) ?_
    first | refine Pstep.go (st_fieldP rfl fi32_1 rfl rfl rfl) ?_ | refine Pstep.go (st_fieldF1 rfl fi32_1 rfl rfl rfl) ?_ | refine Pstep.go (st_fieldFS rfl fi32_1 rfl rfl rfl) ?_ | refine Pstep.go (st_fieldR rfl fi32_1 rfl rfl rfl) ?_
    first | refine Pstep.go (st_loadD1 rfl rfl on29 rfl) ?_ | refine Pstep.go (st_loadP rfl rfl rfl on29 rfl) ?_ | refine Pstep.go (st_loadR rfl rfl (rfl) rfl on29 rfl) ?_
    refine Estep.go (st_callD (wUint_900 m v.u q1 (by omega)) rfl [900, 901] ⟨rfl, rfl, trivial⟩ rfl rfl rfl rfl rfl rfl rfl rfl rfl) ?_
    refine o_nil ?_
    exact ⟨_, [900, 901], _, res_of rfl, rfl, rfl, rfl, by simp [enc, pureC, encS, uvb, *]⟩
  · refine a_seq ?_
    refine a_region ?_
    first | refine Pstep.go (st_eql rfl rfl rfl) ?_ | refine Pstep.go (st_eqlSL rfl rfl rfl) ?_ | refine Pstep.go (st_eqlS rfl rfl rfl) ?_ | refine Pstep.go (st_eqlB Try.underlying3 rfl rfl rfl) ?_ | refine Pstep.go (st_eqlP Try.underlying3 rfl rfl rfl) ?_ | refine Pstep.go (st_eqlN Try.underlying3 rfl rfl) ?_ | refine Pstep.go (st_eqlF Try.underlying3 rfl rfl rfl) ?_ | refine Pstep.go (st_eqlFN Try.underlying3 rfl rfl) ?_
    refine Pstep.go (st_assign rfl rfl) ?_
    refine o_nil ?_
    first | refine a_if rfl (fun h18 => ?_) (fun h18 => ?_) | refine a_cond rfl (fun h18 => ?_) (fun h18 => ?_)
    · refine a_region ?_
      refine Pstep.go (st_move rfl rfl) ?_
      first | refine Pstep.go (st_fieldP rfl fi32_2 rfl rfl rfl) ?_ | refine Pstep.go (st_fieldF1 rfl fi32_2 rfl rfl rfl) ?_ | refine Pstep.go (st_fieldFS rfl fi32_2 rfl rfl rfl) ?_ | refine Pstep.go (st_fieldR rfl fi32_2 rfl rfl rfl) ?_
      first | refine Pstep.go (st_loadD1 rfl rfl on2 rfl) ?_ | refine Pstep.go (st_loadP rfl rfl rfl on2 rfl) ?_ | refine Pstep.go (st_loadR rfl rfl (rfl) rfl on2 rfl) ?_
      refine Estep.go (st_callD (wInt_900 m v.i q2 q3 (by omega)) rfl [900, 901] ⟨rfl, rfl, trivial⟩ rfl rfl rfl rfl rfl rfl rfl rfl rfl) ?_
      refine o_nil ?_
      exact ⟨_, [900, 901], _, res_of rfl, rfl, rfl, rfl, by simp [enc, pureC, encS, uvb, *]⟩
    · refine a_seq ?_
      refine a_region ?_
      first | refine Pstep.go (st_eql rfl rfl rfl) ?_ | refine Pstep.go (st_eqlSL rfl rfl rfl) ?_ | refine Pstep.go (st_eqlS rfl rfl rfl) ?_ | refine Pstep.go (st_eqlB Try.underlying3 rfl rfl rfl) ?_ | refine Pstep.go (st_eqlP Try.underlying3 rfl rfl rfl) ?_ | refine Pstep.go (st_eqlN Try.underlying3 rfl rfl) ?_ | refine Pstep.go (st_eqlF Try.underlying3 rfl rfl rfl) ?_ | refine Pstep.go (st_eqlFN Try.underlying3 rfl rfl) ?_
      refine Pstep.go (st_assign rfl rfl) ?_
      refine o_nil ?_
      first | refine a_if rfl (fun h24 => ?_) (fun h24 => ?_) | refine a_cond rfl (fun h24 => ?_) (fun h24 => ?_)
      · refine a_region ?_
        refine Pstep.go (st_move rfl rfl) ?_
        first | refine Pstep.go (st_fieldP rfl fi32_3 rfl rfl rfl) ?_ | refine Pstep.go (st_fieldF1 rfl fi32_3 rfl rfl rfl) ?_ | refine Pstep.go (st_fieldFS rfl fi32_3 rfl rfl rfl) ?_ | refine Pstep.go (st_fieldR rfl fi32_3 rfl rfl rfl) ?_
        first | refine Pstep.go (st_loadD1 rfl rfl on4 rfl) ?_ | refine Pstep.go (st_loadP rfl rfl rfl on4 rfl) ?_ | refine Pstep.go (st_loadR rfl rfl (rfl) rfl on4 rfl) ?_
        refine Estep.go (st_callD (wBool_900 m v.b (by omega)) rfl [900, 901] ⟨rfl, rfl, trivial⟩ rfl rfl rfl rfl rfl rfl rfl rfl rfl) ?_
        refine o_nil ?_
        exact ⟨_, [900, 901], _, res_of rfl, rfl, rfl, rfl, by simp [enc, pureC, encS, uvb, *]⟩
      · refine a_seq ?_
        refine a_region ?_
        first | refine Pstep.go (st_eql rfl rfl rfl) ?_ | refine Pstep.go (st_eqlSL rfl rfl rfl) ?_ | refine Pstep.go (st_eqlS rfl rfl rfl) ?_ | refine Pstep.go (st_eqlB Try.underlying3 rfl rfl rfl) ?_ | refine Pstep.go (st_eqlP Try.underlying3 rfl rfl rfl) ?_ | refine Pstep.go (st_eqlN Try.underlying3 rfl rfl) ?_ | refine Pstep.go (st_eqlF Try.underlying3 rfl rfl rfl) ?_ | refine Pstep.go (st_eqlFN Try.underlying3 rfl rfl) ?_
        refine Pstep.go (st_assign rfl rfl) ?_
        refine o_nil ?_
        first | refine a_if rfl (fun h30 => ?_) (fun h30 => ?_) | refine a_cond rfl (fun h30 => ?_) (fun h30 => ?_)
        · refine a_seq ?_
          refine a_region ?_
          refine Pstep.go (st_move rfl rfl) ?_
          refine o_nil ?_
          first | refine a_if rfl (fun h32 => ?_) (fun h32 => ?_) | refine a_cond rfl (fun h32 => ?_) (fun h32 => ?_)
          · refine a_region ?_
            refine Pstep.go (st_move rfl rfl) ?_
            first | refine Pstep.go (st_fieldP rfl fi32_4 rfl rfl rfl) ?_ | refine Pstep.go (st_fieldF1 rfl fi32_4 rfl rfl rfl) ?_ | refine Pstep.go (st_fieldFS rfl fi32_4 rfl rfl rfl) ?_ | refine Pstep.go (st_fieldR rfl fi32_4 rfl rfl rfl) ?_
            first | refine Pstep.go (st_loadD1 rfl rfl on9 rfl) ?_ | refine Pstep.go (st_loadP rfl rfl rfl on9 rfl) ?_ | refine Pstep.go (st_loadR rfl rfl (rfl) rfl on9 rfl) ?_
            refine Pstep.go (st_convSB v.s rfl (by omega) Try.underlying9 Try.underlying27 Try.underlying5 rfl) ?_
            refine Estep.go (st_callD (wBlob_900 m v.s (by omega)) rfl [900, 901] ⟨rfl, rfl, trivial⟩ rfl rfl rfl rfl rfl rfl rfl rfl rfl) ?_
            refine o_nil ?_
            exact ⟨_, [900, 901], _, res_of rfl, rfl, rfl, rfl, by simp [enc, pureC, encS, uvb, *]⟩
          · refine a_region ?_
            refine Pstep.go (st_move rfl rfl) ?_
            first | refine Pstep.go (st_fieldP rfl fi32_4 rfl rfl rfl) ?_ | refine Pstep.go (st_fieldF1 rfl fi32_4 rfl rfl rfl) ?_ | refine Pstep.go (st_fieldFS rfl fi32_4 rfl rfl rfl) ?_ | refine Pstep.go (st_fieldR rfl fi32_4 rfl rfl rfl) ?_
            first | refine Pstep.go (st_loadD1 rfl rfl on9 rfl) ?_ | refine Pstep.go (st_loadP rfl rfl rfl on9 rfl) ?_ | refine Pstep.go (st_loadR rfl rfl (rfl) rfl on9 rfl) ?_
            refine Estep.go (st_callD (wString_900 m v.s (by omega)) rfl [900, 901] ⟨rfl, rfl, trivial⟩ rfl rfl rfl rfl rfl rfl rfl rfl rfl) ?_
            refine o_nil ?_
            exact ⟨_, [900, 901], _, res_of rfl, rfl, rfl, rfl, by simp [enc, pureC, encS, uvb, *]⟩
        · refine a_region ?_
          refine Pstep.go (st_move rfl rfl) ?_
          first | refine Pstep.go (st_fieldP rfl fi32_5 rfl rfl rfl) ?_ | refine Pstep.go (st_fieldF1 rfl fi32_5 rfl rfl rfl) ?_ | refine Pstep.go (st_fieldFS rfl fi32_5 rfl rfl rfl) ?_ | refine Pstep.go (st_fieldR rfl fi32_5 rfl rfl rfl) ?_
          first | refine Pstep.go (st_loadD1 rfl rfl on30 rfl) ?_ | refine Pstep.go (st_loadP rfl rfl rfl on30 rfl) ?_ | refine Pstep.go (st_loadR rfl rfl (rfl) rfl on30 rfl) ?_
          refine Estep.go (st_callD (writeSlice_900 m v.l hm (by omega) q6) rfl [900, 901] ⟨rfl, rfl, trivial⟩ rfl rfl rfl rfl rfl rfl rfl rfl rfl) ?_
          refine o_nil ?_
          exact ⟨_, [900, 901], _, res_of rfl, rfl, rfl, rfl, by simp [enc, pureC, encS, uvb, *]⟩
end Go.Proofs.Ytjbghmlofjkcfaa
