/- The walk of take. -/
import Derived.Test.YtjbghmlofjkcfaaCodT
namespace Go.Proofs.Ytjbghmlofjkcfaa
open Go.RowKit

/-- What is taken for a kind. -/
def takeV (mx : Int) (b : List UInt8) (k : Int) (s : RSt) : CV × RSt :=
  if k = 0 then (⟨0, (stU b s).1, 0, false, [], []⟩, (stU b s).2)
  else if k = 1 then (⟨1, 0, unzz (stU b s).1, false, [], []⟩, (stU b s).2)
  else if k = 2 then (⟨2, 0, 0, (stB b s).1, [], []⟩, (stB b s).2)
  else if k = 3 then (⟨3, 0, 0, false, (stS b s).1, []⟩, (stS b s).2)
  else (⟨4, 0, 0, false, [], (rdSlice mx b s).1⟩, (rdSlice mx b s).2)
theorem takeV0 {mx : Int} {b : List UInt8} {k : Int} {s : RSt} (h : k = 0) : takeV mx b k s = (⟨0, (stU b s).1, 0, false, [], []⟩, (stU b s).2) := by unfold takeV; rw [if_pos h]
theorem takeV1 {mx : Int} {b : List UInt8} {k : Int} {s : RSt} (h0 : ¬ k = 0) (h : k = 1) : takeV mx b k s = (⟨1, 0, unzz (stU b s).1, false, [], []⟩, (stU b s).2) := by unfold takeV; rw [if_neg h0, if_pos h]
theorem takeV2 {mx : Int} {b : List UInt8} {k : Int} {s : RSt} (h0 : ¬ k = 0) (h1 : ¬ k = 1) (h : k = 2) : takeV mx b k s = (⟨2, 0, 0, (stB b s).1, [], []⟩, (stB b s).2) := by unfold takeV; rw [if_neg h0, if_neg h1, if_pos h]
theorem takeV3 {mx : Int} {b : List UInt8} {k : Int} {s : RSt} (h0 : ¬ k = 0) (h1 : ¬ k = 1) (h2 : ¬ k = 2) (h : k = 3) : takeV mx b k s = (⟨3, 0, 0, false, (stS b s).1, []⟩, (stS b s).2) := by unfold takeV; rw [if_neg h0, if_neg h1, if_neg h2, if_pos h]
theorem takeV4 {mx : Int} {b : List UInt8} {k : Int} {s : RSt} (h0 : ¬ k = 0) (h1 : ¬ k = 1) (h2 : ¬ k = 2) (h3 : ¬ k = 3) : takeV mx b k s = (⟨4, 0, 0, false, [], (rdSlice mx b s).1⟩, (rdSlice mx b s).2) := by unfold takeV; rw [if_neg h0, if_neg h1, if_neg h2, if_neg h3]
set_option maxHeartbeats 1000000 in
theorem take_910 (mx : Int) (h1 : -9223372036854775808 ≤ mx) (h2 : mx ≤ 9223372036854775807) (b : List UInt8) (s : RSt) (k : Int) (blob : Bool) (hs : s.1 ≤ b.length) (hb : b.length ≤ 1000000000000) :
    ACalls Try.prog 36 [.ptr 910 0 0, .d (.raw (.int .i64 k)), .d (.raw (.int .i64 mx)), .d (.raw (.bool blob))] (rH b s.1 s.2) fun r H' => r = .d (vD (takeV mx b k s).1) ∧ H' = rH b (takeV mx b k s).2.1 (takeV mx b k s).2.2 := by
  refine a_enter Try.func36 rfl rfl Try.ntmps36 rfl rfl rfl fun F hF => ?_
  refine a_seq ?_
  refine a_region ?_
  refine Estep.go (st_alloc 1 zl32 rfl rfl rfl rfl) ?_
  refine o_nil ?_
  refine a_seq ?_
  refine a_region ?_
  refine Pstep.go (st_move rfl rfl) ?_
  refine Pstep.go (st_build zl32 pl32 rfl rfl rfl) ?_
  refine o_weakD 11 (.agg [.raw (.int .i64 k), .raw (.int .u64 0), .raw (.int .i64 0), .raw (.bool false), .raw (.string ⟨#[]⟩), .sl none []]) rfl (fun _ _ _ h => aggNil h) ?_
  refine Estep.go (st_alloc 2 zl32 rfl rfl rfl rfl) ?_
  refine Estep.go (st_storeP rfl rfl rfl rfl rfl rfl rfl sz32) ?_
  refine o_nil ?_
  refine a_seq ?_
  refine a_seq ?_
  refine a_region ?_
  refine Pstep.go (st_move rfl rfl) ?_
  refine o_nil ?_
  refine a_block ?_
  refine a_seq ?_
  refine a_region ?_
  first | refine Pstep.go (st_eql rfl rfl rfl) ?_ | refine Pstep.go (st_eqlSL rfl rfl rfl) ?_ | refine Pstep.go (st_eqlS rfl rfl rfl) ?_ | refine Pstep.go (st_eqlB Try.underlying3 rfl rfl rfl) ?_ | refine Pstep.go (st_eqlP Try.underlying3 rfl rfl rfl) ?_ | refine Pstep.go (st_eqlN Try.underlying3 rfl rfl) ?_ | refine Pstep.go (st_eqlF Try.underlying3 rfl rfl rfl) ?_ | refine Pstep.go (st_eqlFN Try.underlying3 rfl rfl) ?_
  refine Pstep.go (st_assign rfl rfl) ?_
  refine o_nil ?_
  first | refine a_if rfl (fun h18 => ?_) (fun h18 => ?_) | refine a_cond rfl (fun h18 => ?_) (fun h18 => ?_)
  · refine a_region ?_
    refine Pstep.go (st_move rfl rfl) ?_
    refine Estep.go (st_callD (rUint_910 b s hs hb) rfl [910] ⟨rfl, trivial⟩ rfl rfl rfl rfl rfl rfl rfl rfl rfl) ?_
    first | refine Pstep.go (st_fieldP rfl fi32_1 rfl rfl rfl) ?_ | refine Pstep.go (st_fieldF1 rfl fi32_1 rfl rfl rfl) ?_ | refine Pstep.go (st_fieldFS rfl fi32_1 rfl rfl rfl) ?_ | refine Pstep.go (st_fieldR rfl fi32_1 rfl rfl rfl) ?_
    refine Estep.go (st_storeP rfl rfl rfl rfl rfl rfl rfl sz29) ?_
    refine o_nil ?_
    refine a_seq ?_
    refine a_region ?_
    first | refine Pstep.go (st_loadDS rfl rfl rw32 rfl) ?_ | refine Pstep.go (st_loadPS rfl rfl rw32 rfl rfl rfl) ?_ | refine Pstep.go (st_loadRS rfl rfl (rfl) rfl rw32 rfl) ?_
    refine Estep.go (st_storeP rfl rfl rfl rfl rfl rfl rfl sz32) ?_
    refine o_nil ?_
    refine a_ret ?_
    exact ⟨_, [910], _, ⟨_, .cons (.cellS rfl rfl rw32 rfl rfl) .nil, rfl⟩, rfl, rfl, by rw [takeV0 h18, h18] <;> rfl, by rw [takeV0 h18] <;> rfl⟩
  · refine a_seq ?_
    refine a_region ?_
    first | refine Pstep.go (st_eql rfl rfl rfl) ?_ | refine Pstep.go (st_eqlSL rfl rfl rfl) ?_ | refine Pstep.go (st_eqlS rfl rfl rfl) ?_ | refine Pstep.go (st_eqlB Try.underlying3 rfl rfl rfl) ?_ | refine Pstep.go (st_eqlP Try.underlying3 rfl rfl rfl) ?_ | refine Pstep.go (st_eqlN Try.underlying3 rfl rfl) ?_ | refine Pstep.go (st_eqlF Try.underlying3 rfl rfl rfl) ?_ | refine Pstep.go (st_eqlFN Try.underlying3 rfl rfl) ?_
    refine Pstep.go (st_assign rfl rfl) ?_
    refine o_nil ?_
    first | refine a_if rfl (fun h23 => ?_) (fun h23 => ?_) | refine a_cond rfl (fun h23 => ?_) (fun h23 => ?_)
    · refine a_region ?_
      refine Pstep.go (st_move rfl rfl) ?_
      refine Estep.go (st_callD (rInt_910 b s hs hb) rfl [910] ⟨rfl, trivial⟩ rfl rfl rfl rfl rfl rfl rfl rfl rfl) ?_
      first | refine Pstep.go (st_fieldP rfl fi32_2 rfl rfl rfl) ?_ | refine Pstep.go (st_fieldF1 rfl fi32_2 rfl rfl rfl) ?_ | refine Pstep.go (st_fieldFS rfl fi32_2 rfl rfl rfl) ?_ | refine Pstep.go (st_fieldR rfl fi32_2 rfl rfl rfl) ?_
      refine Estep.go (st_storeP rfl rfl rfl rfl rfl rfl rfl sz2) ?_
      refine o_nil ?_
      refine a_seq ?_
      refine a_region ?_
      first | refine Pstep.go (st_loadDS rfl rfl rw32 rfl) ?_ | refine Pstep.go (st_loadPS rfl rfl rw32 rfl rfl rfl) ?_ | refine Pstep.go (st_loadRS rfl rfl (rfl) rfl rw32 rfl) ?_
      refine Estep.go (st_storeP rfl rfl rfl rfl rfl rfl rfl sz32) ?_
      refine o_nil ?_
      refine a_ret ?_
      exact ⟨_, [910], _, ⟨_, .cons (.cellS rfl rfl rw32 rfl rfl) .nil, rfl⟩, rfl, rfl, by rw [takeV1 h18 h23, h23] <;> rfl, by rw [takeV1 h18 h23] <;> rfl⟩
    · refine a_seq ?_
      refine a_region ?_
      first | refine Pstep.go (st_eql rfl rfl rfl) ?_ | refine Pstep.go (st_eqlSL rfl rfl rfl) ?_ | refine Pstep.go (st_eqlS rfl rfl rfl) ?_ | refine Pstep.go (st_eqlB Try.underlying3 rfl rfl rfl) ?_ | refine Pstep.go (st_eqlP Try.underlying3 rfl rfl rfl) ?_ | refine Pstep.go (st_eqlN Try.underlying3 rfl rfl) ?_ | refine Pstep.go (st_eqlF Try.underlying3 rfl rfl rfl) ?_ | refine Pstep.go (st_eqlFN Try.underlying3 rfl rfl) ?_
      refine Pstep.go (st_assign rfl rfl) ?_
      refine o_nil ?_
      first | refine a_if rfl (fun h28 => ?_) (fun h28 => ?_) | refine a_cond rfl (fun h28 => ?_) (fun h28 => ?_)
      · refine a_region ?_
        refine Pstep.go (st_move rfl rfl) ?_
        refine Estep.go (st_callD (rBool_910 b s hs hb) rfl [910] ⟨rfl, trivial⟩ rfl rfl rfl rfl rfl rfl rfl rfl rfl) ?_
        first | refine Pstep.go (st_fieldP rfl fi32_3 rfl rfl rfl) ?_ | refine Pstep.go (st_fieldF1 rfl fi32_3 rfl rfl rfl) ?_ | refine Pstep.go (st_fieldFS rfl fi32_3 rfl rfl rfl) ?_ | refine Pstep.go (st_fieldR rfl fi32_3 rfl rfl rfl) ?_
        refine Estep.go (st_storeP rfl rfl rfl rfl rfl rfl rfl sz4) ?_
        refine o_nil ?_
        refine a_seq ?_
        refine a_region ?_
        first | refine Pstep.go (st_loadDS rfl rfl rw32 rfl) ?_ | refine Pstep.go (st_loadPS rfl rfl rw32 rfl rfl rfl) ?_ | refine Pstep.go (st_loadRS rfl rfl (rfl) rfl rw32 rfl) ?_
        refine Estep.go (st_storeP rfl rfl rfl rfl rfl rfl rfl sz32) ?_
        refine o_nil ?_
        refine a_ret ?_
        exact ⟨_, [910], _, ⟨_, .cons (.cellS rfl rfl rw32 rfl rfl) .nil, rfl⟩, rfl, rfl, by rw [takeV2 h18 h23 h28, h28] <;> rfl, by rw [takeV2 h18 h23 h28] <;> rfl⟩
      · refine a_seq ?_
        refine a_region ?_
        first | refine Pstep.go (st_eql rfl rfl rfl) ?_ | refine Pstep.go (st_eqlSL rfl rfl rfl) ?_ | refine Pstep.go (st_eqlS rfl rfl rfl) ?_ | refine Pstep.go (st_eqlB Try.underlying3 rfl rfl rfl) ?_ | refine Pstep.go (st_eqlP Try.underlying3 rfl rfl rfl) ?_ | refine Pstep.go (st_eqlN Try.underlying3 rfl rfl) ?_ | refine Pstep.go (st_eqlF Try.underlying3 rfl rfl rfl) ?_ | refine Pstep.go (st_eqlFN Try.underlying3 rfl rfl) ?_
        refine Pstep.go (st_assign rfl rfl) ?_
        refine o_nil ?_
        first | refine a_if rfl (fun h33 => ?_) (fun h33 => ?_) | refine a_cond rfl (fun h33 => ?_) (fun h33 => ?_)
        · refine a_seq ?_
          refine a_region ?_
          refine Pstep.go (st_move rfl rfl) ?_
          refine o_nil ?_
          first | refine a_if rfl (fun h35 => ?_) (fun h35 => ?_) | refine a_cond rfl (fun h35 => ?_) (fun h35 => ?_)
          · refine a_region ?_
            refine Pstep.go (st_move rfl rfl) ?_
            refine Estep.go (st_callD (rBlob_910 b s hs hb) rfl [910] ⟨rfl, trivial⟩ rfl rfl rfl rfl rfl rfl rfl rfl rfl) ?_
            refine Pstep.go (st_convBS (stS b s).1 rfl rfl Try.underlying27 Try.underlying5 Try.underlying9 rfl) ?_
            first | refine Pstep.go (st_fieldP rfl fi32_4 rfl rfl rfl) ?_ | refine Pstep.go (st_fieldF1 rfl fi32_4 rfl rfl rfl) ?_ | refine Pstep.go (st_fieldFS rfl fi32_4 rfl rfl rfl) ?_ | refine Pstep.go (st_fieldR rfl fi32_4 rfl rfl rfl) ?_
            refine Estep.go (st_storeP rfl rfl rfl rfl rfl rfl rfl sz9) ?_
            refine o_nil ?_
            refine a_seq ?_
            refine a_region ?_
            first | refine Pstep.go (st_loadDS rfl rfl rw32 rfl) ?_ | refine Pstep.go (st_loadPS rfl rfl rw32 rfl rfl rfl) ?_ | refine Pstep.go (st_loadRS rfl rfl (rfl) rfl rw32 rfl) ?_
            refine Estep.go (st_storeP rfl rfl rfl rfl rfl rfl rfl sz32) ?_
            refine o_nil ?_
            refine a_ret ?_
            exact ⟨_, [910], _, ⟨_, .cons (.cellS rfl rfl rw32 rfl rfl) .nil, rfl⟩, rfl, rfl, by rw [takeV3 h18 h23 h28 h33, h33] <;> rfl, by rw [takeV3 h18 h23 h28 h33] <;> rfl⟩
          · refine a_region ?_
            refine Pstep.go (st_move rfl rfl) ?_
            refine Estep.go (st_callD (rString_910 b s hs hb) rfl [910] ⟨rfl, trivial⟩ rfl rfl rfl rfl rfl rfl rfl rfl rfl) ?_
            first | refine Pstep.go (st_fieldP rfl fi32_4 rfl rfl rfl) ?_ | refine Pstep.go (st_fieldF1 rfl fi32_4 rfl rfl rfl) ?_ | refine Pstep.go (st_fieldFS rfl fi32_4 rfl rfl rfl) ?_ | refine Pstep.go (st_fieldR rfl fi32_4 rfl rfl rfl) ?_
            refine Estep.go (st_storeP rfl rfl rfl rfl rfl rfl rfl sz9) ?_
            refine o_nil ?_
            refine a_seq ?_
            refine a_region ?_
            first | refine Pstep.go (st_loadDS rfl rfl rw32 rfl) ?_ | refine Pstep.go (st_loadPS rfl rfl rw32 rfl rfl rfl) ?_ | refine Pstep.go (st_loadRS rfl rfl (rfl) rfl rw32 rfl) ?_
            refine Estep.go (st_storeP rfl rfl rfl rfl rfl rfl rfl sz32) ?_
            refine o_nil ?_
            refine a_ret ?_
            exact ⟨_, [910], _, ⟨_, .cons (.cellS rfl rfl rw32 rfl rfl) .nil, rfl⟩, rfl, rfl, by rw [takeV3 h18 h23 h28 h33, h33] <;> rfl, by rw [takeV3 h18 h23 h28 h33] <;> rfl⟩
        · refine a_seq ?_
          refine a_region ?_
          first | refine Pstep.go (st_fieldP rfl fi32_0 rfl rfl rfl) ?_ | refine Pstep.go (st_fieldF1 rfl fi32_0 rfl rfl rfl) ?_ | refine Pstep.go (st_fieldFS rfl fi32_0 rfl rfl rfl) ?_ | refine Pstep.go (st_fieldR rfl fi32_0 rfl rfl rfl) ?_
          refine Estep.go (st_storeP rfl rfl rfl rfl rfl rfl rfl sz3) ?_
          refine o_nil ?_
          refine a_region ?_
          refine Pstep.go (st_move rfl rfl) ?_
          refine Pstep.go (st_move rfl rfl) ?_
          refine Estep.go (st_callD (readSlice_910 mx h1 h2 b s hs hb) rfl [910] ⟨rfl, trivial⟩ rfl rfl rfl rfl rfl rfl rfl rfl rfl) ?_
          first | refine Pstep.go (st_fieldP rfl fi32_5 rfl rfl rfl) ?_ | refine Pstep.go (st_fieldF1 rfl fi32_5 rfl rfl rfl) ?_ | refine Pstep.go (st_fieldFS rfl fi32_5 rfl rfl rfl) ?_ | refine Pstep.go (st_fieldR rfl fi32_5 rfl rfl rfl) ?_
          refine Estep.go (st_storeP rfl rfl rfl rfl rfl rfl rfl sz30) ?_
          refine o_nil ?_
          refine a_seq ?_
          refine a_region ?_
          first | refine Pstep.go (st_loadDS rfl rfl rw32 rfl) ?_ | refine Pstep.go (st_loadPS rfl rfl rw32 rfl rfl rfl) ?_ | refine Pstep.go (st_loadRS rfl rfl (rfl) rfl rw32 rfl) ?_
          refine Estep.go (st_storeP rfl rfl rfl rfl rfl rfl rfl sz32) ?_
          refine o_nil ?_
          refine a_ret ?_
          exact ⟨_, [910], _, ⟨_, .cons (.cellS rfl rfl rw32 rfl rfl) .nil, rfl⟩, rfl, rfl, by rw [takeV4 h18 h23 h28 h33] <;> rfl, by rw [takeV4 h18 h23 h28 h33] <;> rfl⟩
end Go.Proofs.Ytjbghmlofjkcfaa
