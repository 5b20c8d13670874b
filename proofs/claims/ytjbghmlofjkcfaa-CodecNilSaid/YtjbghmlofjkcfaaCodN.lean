/- The walks of the nil writer and the nil reader. -/
import Derived.Test.YtjbghmlofjkcfaaLawC5
import Derived.Test.YtjbghmlofjkcfaaCodS
namespace Go.Proofs.Ytjbghmlofjkcfaa
open Go.RowKit

abbrev nilP : AV := .d (.raw (.pointer none))
/-- A call that leaves nothing behind. -/
abbrev Void (f : FuncId) (args : List AV) : Prop := ACalls Try.prog f args [] fun r H' => r = .tup [] ∧ H' = []
theorem wUint_nil (x : Int) : Void 38 [nilP, .d (.raw (.int .u64 x))] := by
  refine a_enter Try.func38 rfl rfl Try.ntmps38 rfl rfl rfl fun F hF => ?_
  refine a_seq ?_
  refine a_seq ?_
  refine a_region ?_
  refine Pstep.go (st_move rfl rfl) ?_
  first | refine Pstep.go (st_eql rfl rfl rfl) ?_ | refine Pstep.go (st_eqlSL rfl rfl rfl) ?_ | refine Pstep.go (st_eqlS rfl rfl rfl) ?_ | refine Pstep.go (st_eqlB Try.underlying25 rfl rfl rfl) ?_ | refine Pstep.go (st_eqlP Try.underlying25 rfl rfl rfl) ?_ | refine Pstep.go (st_eqlN Try.underlying25 rfl rfl) ?_ | refine Pstep.go (st_eqlF Try.underlying25 rfl rfl rfl) ?_ | refine Pstep.go (st_eqlFN Try.underlying25 rfl rfl) ?_
  refine o_nil ?_
  refine a_true rfl (rfl) ?_
  refine a_ret ?_
  exact ⟨_, [], [], res_of rfl, rfl, rfl, rfl, rfl⟩
theorem wInt_nil (x : Int) : Void 39 [nilP, .d (.raw (.int .i64 x))] := by
  refine a_enter Try.func39 rfl rfl Try.ntmps39 rfl rfl rfl fun F hF => ?_
  refine a_region ?_
  refine Pstep.go (st_move rfl rfl) ?_
  refine Pstep.go (st_move rfl rfl) ?_
  refine Pstep.go (st_conv rfl Try.underlying2 Try.underlying29 (rfl) rfl) ?_
  refine Pstep.go (st_shl rfl rfl (by omega) (rfl) rfl) ?_
  refine Pstep.go (st_move rfl rfl) ?_
  refine Pstep.go (st_shr rfl rfl (by omega) (rfl) rfl) ?_
  refine Pstep.go (st_conv rfl Try.underlying2 Try.underlying29 (rfl) rfl) ?_
  refine Pstep.go (st_bits rfl rfl rfl (rfl) rfl) ?_
  refine Estep.go (st_callD (wUint_nil _) rfl [] trivial rfl rfl rfl rfl rfl rfl rfl rfl rfl) ?_
  refine o_nil ?_
  exact ⟨_, [], [], res_of rfl, rfl, rfl, rfl, rfl⟩
theorem wBool_nil (b : Bool) : Void 41 [nilP, .d (.raw (.bool b))] := by
  refine a_enter Try.func41 rfl rfl Try.ntmps41 rfl rfl rfl fun F hF => ?_
  refine a_seq ?_
  refine a_region ?_
  refine Pstep.go (st_assign rfl rfl) ?_
  refine o_nil ?_
  refine a_seq ?_
  refine a_seq ?_
  refine a_region ?_
  refine Pstep.go (st_move rfl rfl) ?_
  refine o_nil ?_
  first | refine a_if rfl (fun h5 => ?_) (fun h5 => ?_) | refine a_cond rfl (fun h5 => ?_) (fun h5 => ?_)
  · refine a_region ?_
    refine Pstep.go (st_assign rfl rfl) ?_
    refine o_nil ?_
    refine a_region ?_
    refine Pstep.go (st_move rfl rfl) ?_
    refine Pstep.go (st_move rfl rfl) ?_
    refine Estep.go (st_callD (wUint_nil 1) rfl [] trivial rfl rfl rfl rfl rfl rfl rfl rfl rfl) ?_
    refine o_nil ?_
    exact ⟨_, [], [], res_of rfl, rfl, rfl, rfl, rfl⟩
  · refine a_skip ?_
    refine a_region ?_
    refine Pstep.go (st_move rfl rfl) ?_
    refine Pstep.go (st_move rfl rfl) ?_
    refine Estep.go (st_callD (wUint_nil 0) rfl [] trivial rfl rfl rfl rfl rfl rfl rfl rfl rfl) ?_
    refine o_nil ?_
    exact ⟨_, [], [], res_of rfl, rfl, rfl, rfl, rfl⟩
theorem wBlob_nil (b : List UInt8) : Void 42 [nilP, .d (bytesD b)] := by
  refine a_enter Try.func42 rfl rfl Try.ntmps42 rfl rfl rfl fun F hF => ?_
  refine a_seq ?_
  refine a_seq ?_
  refine a_region ?_
  refine Pstep.go (st_move rfl rfl) ?_
  first | refine Pstep.go (st_eql rfl rfl rfl) ?_ | refine Pstep.go (st_eqlSL rfl rfl rfl) ?_ | refine Pstep.go (st_eqlS rfl rfl rfl) ?_ | refine Pstep.go (st_eqlB Try.underlying25 rfl rfl rfl) ?_ | refine Pstep.go (st_eqlP Try.underlying25 rfl rfl rfl) ?_ | refine Pstep.go (st_eqlN Try.underlying25 rfl rfl) ?_ | refine Pstep.go (st_eqlF Try.underlying25 rfl rfl rfl) ?_ | refine Pstep.go (st_eqlFN Try.underlying25 rfl rfl) ?_
  refine o_nil ?_
  refine a_true rfl (rfl) ?_
  refine a_ret ?_
  exact ⟨_, [], [], res_of rfl, rfl, rfl, rfl, rfl⟩
theorem wString_nil (b : List UInt8) (hb : b.length ≤ 140737488355328) : Void 40 [nilP, .d (strD b)] := by
  refine a_enter Try.func40 rfl rfl Try.ntmps40 rfl rfl rfl fun F hF => ?_
  refine a_region ?_
  refine Pstep.go (st_move rfl rfl) ?_
  refine Pstep.go (st_move rfl rfl) ?_
  refine Pstep.go (st_convSB b rfl hb Try.underlying9 Try.underlying27 Try.underlying5 rfl) ?_
  refine Estep.go (st_callD (wBlob_nil b) rfl [] trivial rfl rfl rfl rfl rfl rfl rfl rfl rfl) ?_
  refine o_nil ?_
  exact ⟨_, [], [], res_of rfl, rfl, rfl, rfl, rfl⟩
theorem writeSlice_nilW (l : List (List UInt8)) (x : D) : Void 30 [nilP, .d (strsD l), .d x] := by
  refine a_enter Try.func30 rfl rfl Try.ntmps30 rfl rfl rfl fun F hF => ?_
  refine a_seq ?_
  refine a_seq ?_
  refine a_region ?_
  refine Pstep.go (st_move rfl rfl) ?_
  first | refine Pstep.go (st_eql rfl rfl rfl) ?_ | refine Pstep.go (st_eqlSL rfl rfl rfl) ?_ | refine Pstep.go (st_eqlS rfl rfl rfl) ?_ | refine Pstep.go (st_eqlB Try.underlying25 rfl rfl rfl) ?_ | refine Pstep.go (st_eqlP Try.underlying25 rfl rfl rfl) ?_ | refine Pstep.go (st_eqlN Try.underlying25 rfl rfl) ?_ | refine Pstep.go (st_eqlF Try.underlying25 rfl rfl rfl) ?_ | refine Pstep.go (st_eqlFN Try.underlying25 rfl rfl) ?_
  refine o_nil ?_
  refine a_true rfl (rfl) ?_
  refine a_ret ?_
  exact ⟨_, [], [], res_of rfl, rfl, rfl, rfl, rfl⟩
theorem put_nil (v : CV) (blob : Bool) (hs : v.s.length ≤ 140737488355328) : Void 14 [nilP, .d (vD v), .d (.raw (.bool blob))] := by
  refine a_enter Try.func14 rfl rfl Try.ntmps14 rfl rfl rfl fun F hF => ?_
  refine a_seq ?_
  refine a_region ?_
  refine Estep.go (st_box 1 rfl rfl rfl rfl rfl rfl rfl) ?_
  refine o_nil ?_
  refine a_seq ?_
  refine a_region ?_
  first | refine Pstep.go (st_fieldP rfl fi32_0 rfl rfl rfl) ?_ | refine Pstep.go (st_fieldF1 rfl fi32_0 rfl rfl rfl) ?_ | refine Pstep.go (st_fieldFS rfl fi32_0 rfl rfl rfl) ?_ | refine Pstep.go (st_fieldR rfl fi32_0 rfl rfl rfl) ?_
  first | refine Pstep.go (st_loadD1 rfl rfl on3 rfl) ?_ | refine Pstep.go (st_loadP rfl rfl rfl on3 rfl) ?_ | refine Pstep.go (st_loadR rfl rfl (rfl) rfl on3 rfl) ?_
  refine o_nil ?_
  refine a_block ?_
  refine a_seq ?_
  refine a_region ?_
  first | refine Pstep.go (st_eql rfl rfl rfl) ?_ | refine Pstep.go (st_eqlSL rfl rfl rfl) ?_ | refine Pstep.go (st_eqlS rfl rfl rfl) ?_ | refine Pstep.go (st_eqlB Try.underlying3 rfl rfl rfl) ?_ | refine Pstep.go (st_eqlP Try.underlying3 rfl rfl rfl) ?_ | refine Pstep.go (st_eqlN Try.underlying3 rfl rfl) ?_ | refine Pstep.go (st_eqlF Try.underlying3 rfl rfl rfl) ?_ | refine Pstep.go (st_eqlFN Try.underlying3 rfl rfl) ?_
  refine Pstep.go (st_assign rfl rfl) ?_
  refine o_nil ?_
  first | refine a_if rfl (fun h12 => ?_) (fun h12 => ?_) | refine a_cond rfl (fun h12 => ?_) (fun h12 => ?_)
  · refine a_region ?_
    refine Pstep.go (st_move rfl rfl) ?_
    first | refine Pstep.go (st_fieldP rfl fi32_1 rfl rfl rfl) ?_ | refine Pstep.go (st_fieldF1 rfl fi32_1 rfl rfl rfl) ?_ | refine Pstep.go (st_fieldFS rfl fi32_1 rfl rfl rfl) ?_ | refine Pstep.go (st_fieldR rfl fi32_1 rfl rfl rfl) ?_
    first | refine Pstep.go (st_loadD1 rfl rfl on29 rfl) ?_ | refine Pstep.go (st_loadP rfl rfl rfl on29 rfl) ?_ | refine Pstep.go (st_loadR rfl rfl (rfl) rfl on29 rfl) ?_
    refine Estep.go (st_callD (wUint_nil _) rfl [] trivial rfl rfl rfl rfl rfl rfl rfl rfl rfl) ?_
    refine o_nil ?_
    exact ⟨_, [], [], res_of rfl, rfl, rfl, rfl, rfl⟩
  · refine a_seq ?_
    refine a_region ?_
    first | refine Pstep.go (st_eql rfl rfl rfl) ?_ | refine Pstep.go (st_eqlSL rfl rfl rfl) ?_ | refine Pstep.go (st_eqlS rfl rfl rfl) ?_ | refine Pstep.go (st_eqlB Try.underlying3 rfl rfl rfl) ?_ | refine Pstep.go (st_eqlP Try.underlying3 rfl rfl rfl) ?_ | refine Pstep.go (st_eqlN Try.underlying3 rfl rfl) ?_ | refine Pstep.go (st_eqlF Try.underlying3 rfl rfl rfl) ?_ | refine Pstep.go (st_eqlFN Try.underlying3 rfl rfl) ?_
    refine Pstep.go (st_assign rfl rfl) ?_
    refine o_nil ?_
    first | refine a_if rfl (fun h18 => ?_) (fun h18 => ?_) | refine a_cond rfl (fun h18 => ?_) (fun h18 => ?_)
    · refine a_region ?_
      refine Pstep.go (st_move rfl rfl) ?_
      first | refine Pstep.go (st_fieldP rfl fi32_2 rfl rfl rfl) ?_ | refine Pstep.go (st_fieldF1 rfl fi32_2 rfl rfl rfl) ?_ | refine Pstep.go (st_fieldFS rfl fi32_2 rfl rfl rfl) ?_ | refine Pstep.go (st_fieldR rfl fi32_2 rfl rfl rfl) ?_
      first | refine Pstep.go (st_loadD1 rfl rfl on2 rfl) ?_ | refine Pstep.go (st_loadP rfl rfl rfl on2 rfl) ?_ | refine Pstep.go (st_loadR rfl rfl (rfl) rfl on2 rfl) ?_
      refine Estep.go (st_callD (wInt_nil _) rfl [] trivial rfl rfl rfl rfl rfl rfl rfl rfl rfl) ?_
      refine o_nil ?_
      exact ⟨_, [], [], res_of rfl, rfl, rfl, rfl, rfl⟩
    · refine a_seq ?_
      refine a_region ?_
      first | refine Pstep.go (st_eql rfl rfl rfl) ?_ | refine Pstep.go (st_eqlSL rfl rfl rfl) ?_ | refine Pstep.go (st_eqlS rfl rfl rfl) ?_ | refine Pstep.go (st_eqlB Try.underlying3 rfl rfl rfl) ?_ | refine Pstep.go (st_eqlP Try.underlying3 rfl rfl rfl) ?_ | refine Pstep.go (st_eqlN Try.underlying3 rfl rfl) ?_ | refine Pstep.go (st_eqlF Try.underlying3 rfl rfl rfl) ?_ | refine Pstep.go (st_eqlFN Try.underlying3 rfl rfl) ?_
      refine Pstep.go (st_assign rfl rfl) ?_
      refine o_nil ?_
      first | refine a_if rfl (fun h24 => ?_) (fun h24 => ?_) | refine a_cond rfl (fun h24 => ?_) (fun h24 => ?_)
      · refine a_region ?_
        refine Pstep.go (st_move rfl rfl) ?_
        first | refine Pstep.go (st_fieldP rfl fi32_3 rfl rfl rfl) ?_ | refine Pstep.go (st_fieldF1 rfl fi32_3 rfl rfl rfl) ?_ | refine Pstep.go (st_fieldFS rfl fi32_3 rfl rfl rfl) ?_ | refine Pstep.go (st_fieldR rfl fi32_3 rfl rfl rfl) ?_
        first | refine Pstep.go (st_loadD1 rfl rfl on4 rfl) ?_ | refine Pstep.go (st_loadP rfl rfl rfl on4 rfl) ?_ | refine Pstep.go (st_loadR rfl rfl (rfl) rfl on4 rfl) ?_
        refine Estep.go (st_callD (wBool_nil _) rfl [] trivial rfl rfl rfl rfl rfl rfl rfl rfl rfl) ?_
        refine o_nil ?_
        exact ⟨_, [], [], res_of rfl, rfl, rfl, rfl, rfl⟩
      · refine a_seq ?_
        refine a_region ?_
        first | refine Pstep.go (st_eql rfl rfl rfl) ?_ | refine Pstep.go (st_eqlSL rfl rfl rfl) ?_ | refine Pstep.go (st_eqlS rfl rfl rfl) ?_ | refine Pstep.go (st_eqlB Try.underlying3 rfl rfl rfl) ?_ | refine Pstep.go (st_eqlP Try.underlying3 rfl rfl rfl) ?_ | refine Pstep.go (st_eqlN Try.underlying3 rfl rfl) ?_ | refine Pstep.go (st_eqlF Try.underlying3 rfl rfl rfl) ?_ | refine Pstep.go (st_eqlFN Try.underlying3 rfl rfl) ?_
        refine Pstep.go (st_assign rfl rfl) ?_
        refine o_nil ?_
        first | refine a_if rfl (fun h30 => ?_) (fun h30 => ?_) | refine a_cond rfl (fun h30 => ?_) (fun h30 => ?_)
        · refine a_seq ?_
          refine a_region ?_
          refine Pstep.go (st_move rfl rfl) ?_
          refine o_nil ?_
          first | refine a_if rfl (fun h32 => ?_) (fun h32 => ?_) | refine a_cond rfl (fun h32 => ?_) (fun h32 => ?_)
          · refine a_region ?_
            refine Pstep.go (st_move rfl rfl) ?_
            first | refine Pstep.go (st_fieldP rfl fi32_4 rfl rfl rfl) ?_ | refine Pstep.go (st_fieldF1 rfl fi32_4 rfl rfl rfl) ?_ | refine Pstep.go (st_fieldFS rfl fi32_4 rfl rfl rfl) ?_ | refine Pstep.go (st_fieldR rfl fi32_4 rfl rfl rfl) ?_
            first | refine Pstep.go (st_loadD1 rfl rfl on9 rfl) ?_ | refine Pstep.go (st_loadP rfl rfl rfl on9 rfl) ?_ | refine Pstep.go (st_loadR rfl rfl (rfl) rfl on9 rfl) ?_
            refine Pstep.go (st_convSB v.s rfl hs Try.underlying9 Try.underlying27 Try.underlying5 rfl) ?_
            refine Estep.go (st_callD (wBlob_nil v.s) rfl [] trivial rfl rfl rfl rfl rfl rfl rfl rfl rfl) ?_
            refine o_nil ?_
            exact ⟨_, [], [], res_of rfl, rfl, rfl, rfl, rfl⟩
          · refine a_region ?_
            refine Pstep.go (st_move rfl rfl) ?_
            first | refine Pstep.go (st_fieldP rfl fi32_4 rfl rfl rfl) ?_ | refine Pstep.go (st_fieldF1 rfl fi32_4 rfl rfl rfl) ?_ | refine Pstep.go (st_fieldFS rfl fi32_4 rfl rfl rfl) ?_ | refine Pstep.go (st_fieldR rfl fi32_4 rfl rfl rfl) ?_
            first | refine Pstep.go (st_loadD1 rfl rfl on9 rfl) ?_ | refine Pstep.go (st_loadP rfl rfl rfl on9 rfl) ?_ | refine Pstep.go (st_loadR rfl rfl (rfl) rfl on9 rfl) ?_
            refine Estep.go (st_callD (wString_nil v.s hs) rfl [] trivial rfl rfl rfl rfl rfl rfl rfl rfl rfl) ?_
            refine o_nil ?_
            exact ⟨_, [], [], res_of rfl, rfl, rfl, rfl, rfl⟩
        · refine a_region ?_
          refine Pstep.go (st_move rfl rfl) ?_
          first | refine Pstep.go (st_fieldP rfl fi32_5 rfl rfl rfl) ?_ | refine Pstep.go (st_fieldF1 rfl fi32_5 rfl rfl rfl) ?_ | refine Pstep.go (st_fieldFS rfl fi32_5 rfl rfl rfl) ?_ | refine Pstep.go (st_fieldR rfl fi32_5 rfl rfl rfl) ?_
          first | refine Pstep.go (st_loadD1 rfl rfl on30 rfl) ?_ | refine Pstep.go (st_loadP rfl rfl rfl on30 rfl) ?_ | refine Pstep.go (st_loadR rfl rfl (rfl) rfl on30 rfl) ?_
          refine Estep.go (st_callD (writeSlice_nilW v.l _) rfl [] trivial rfl rfl rfl rfl rfl rfl rfl rfl rfl) ?_
          refine o_nil ?_
          exact ⟨_, [], [], res_of rfl, rfl, rfl, rfl, rfl⟩
theorem wBytes_nil : PCalls Try.prog 18 [nilP] (.sl (some true) []) := by
  refine a_enter Try.func18 rfl rfl Try.ntmps18 rfl rfl rfl fun F hF => ?_
  refine a_seq ?_
  refine a_region ?_
  refine Pstep.go (st_assign rfl rfl) ?_
  refine o_nil ?_
  refine a_seq ?_
  refine a_seq ?_
  refine a_region ?_
  refine Pstep.go (st_move rfl rfl) ?_
  first | refine Pstep.go (st_eql rfl rfl rfl) ?_ | refine Pstep.go (st_eqlSL rfl rfl rfl) ?_ | refine Pstep.go (st_eqlS rfl rfl rfl) ?_ | refine Pstep.go (st_eqlB Try.underlying25 rfl rfl rfl) ?_ | refine Pstep.go (st_eqlP Try.underlying25 rfl rfl rfl) ?_ | refine Pstep.go (st_eqlN Try.underlying25 rfl rfl) ?_ | refine Pstep.go (st_eqlF Try.underlying25 rfl rfl rfl) ?_ | refine Pstep.go (st_eqlFN Try.underlying25 rfl rfl) ?_
  refine o_nil ?_
  refine a_true rfl (rfl) ?_
  refine a_seq ?_
  refine a_region ?_
  refine Pstep.go (st_assign rfl rfl) ?_
  refine o_nil ?_
  refine a_ret ?_
  exact ⟨_, [], [], res_of rfl, rfl, rfl, rfl, rfl⟩
theorem wLen_nil : PCalls Try.prog 17 [nilP] (.raw (.int .i64 0)) := by
  refine a_enter Try.func17 rfl rfl Try.ntmps17 rfl rfl rfl fun F hF => ?_
  refine a_seq ?_
  refine a_region ?_
  refine Pstep.go (st_assign rfl rfl) ?_
  refine o_nil ?_
  refine a_seq ?_
  refine a_seq ?_
  refine a_region ?_
  refine Pstep.go (st_move rfl rfl) ?_
  first | refine Pstep.go (st_eql rfl rfl rfl) ?_ | refine Pstep.go (st_eqlSL rfl rfl rfl) ?_ | refine Pstep.go (st_eqlS rfl rfl rfl) ?_ | refine Pstep.go (st_eqlB Try.underlying25 rfl rfl rfl) ?_ | refine Pstep.go (st_eqlP Try.underlying25 rfl rfl rfl) ?_ | refine Pstep.go (st_eqlN Try.underlying25 rfl rfl) ?_ | refine Pstep.go (st_eqlF Try.underlying25 rfl rfl rfl) ?_ | refine Pstep.go (st_eqlFN Try.underlying25 rfl rfl) ?_
  refine o_nil ?_
  refine a_true rfl (rfl) ?_
  refine a_seq ?_
  refine a_region ?_
  refine Pstep.go (st_assign rfl rfl) ?_
  refine o_nil ?_
  refine a_ret ?_
  exact ⟨_, [], [], res_of rfl, rfl, rfl, rfl, rfl⟩
theorem valueU_nil (f : D) : PCalls Try.prog 45 [nilP, .d f] (.raw (.int .u64 0)) := by
  refine a_enter Try.func45 rfl rfl Try.ntmps45 rfl rfl rfl fun F hF => ?_
  refine a_seq ?_
  refine a_region ?_
  refine Pstep.go (st_assign rfl rfl) ?_
  refine o_nil ?_
  refine a_seq ?_
  refine a_region ?_
  refine Pstep.go (st_assign rfl rfl) ?_
  refine o_nil ?_
  refine a_seq ?_
  refine a_seq ?_
  refine a_region ?_
  refine Pstep.go (st_move rfl rfl) ?_
  first | refine Pstep.go (st_eql rfl rfl rfl) ?_ | refine Pstep.go (st_eqlSL rfl rfl rfl) ?_ | refine Pstep.go (st_eqlS rfl rfl rfl) ?_ | refine Pstep.go (st_eqlB Try.underlying39 rfl rfl rfl) ?_ | refine Pstep.go (st_eqlP Try.underlying39 rfl rfl rfl) ?_ | refine Pstep.go (st_eqlN Try.underlying39 rfl rfl) ?_ | refine Pstep.go (st_eqlF Try.underlying39 rfl rfl rfl) ?_ | refine Pstep.go (st_eqlFN Try.underlying39 rfl rfl) ?_
  refine Pstep.go (st_move rfl rfl) ?_
  refine o_setT 11 rfl (rfl) ?_
  refine o_pass rfl rfl rfl rfl ?_
  refine o_pass rfl rfl rfl rfl ?_
  refine o_pass rfl rfl rfl rfl ?_
  refine o_pass rfl rfl rfl rfl ?_
  refine o_pass rfl rfl rfl rfl ?_
  refine Pstep.go (st_pickT rfl rfl rfl rfl) ?_
  refine o_nil ?_
  refine a_true rfl rfl ?_
  refine a_seq ?_
  refine a_region ?_
  refine Pstep.go (st_move rfl rfl) ?_
  refine Pstep.go (st_assign rfl rfl) ?_
  refine o_nil ?_
  refine a_ret ?_
  exact ⟨_, [], [], res_of rfl, rfl, rfl, rfl, rfl⟩
theorem valueB_nil (f : D) : PCalls Try.prog 47 [nilP, .d f] (.raw (.bool false)) := by
  refine a_enter Try.func47 rfl rfl Try.ntmps47 rfl rfl rfl fun F hF => ?_
  refine a_seq ?_
  refine a_region ?_
  refine Pstep.go (st_assign rfl rfl) ?_
  refine o_nil ?_
  refine a_seq ?_
  refine a_region ?_
  refine Pstep.go (st_assign rfl rfl) ?_
  refine o_nil ?_
  refine a_seq ?_
  refine a_seq ?_
  refine a_region ?_
  refine Pstep.go (st_move rfl rfl) ?_
  first | refine Pstep.go (st_eql rfl rfl rfl) ?_ | refine Pstep.go (st_eqlSL rfl rfl rfl) ?_ | refine Pstep.go (st_eqlS rfl rfl rfl) ?_ | refine Pstep.go (st_eqlB Try.underlying39 rfl rfl rfl) ?_ | refine Pstep.go (st_eqlP Try.underlying39 rfl rfl rfl) ?_ | refine Pstep.go (st_eqlN Try.underlying39 rfl rfl) ?_ | refine Pstep.go (st_eqlF Try.underlying39 rfl rfl rfl) ?_ | refine Pstep.go (st_eqlFN Try.underlying39 rfl rfl) ?_
  refine Pstep.go (st_move rfl rfl) ?_
  refine o_setT 11 rfl (rfl) ?_
  refine o_pass rfl rfl rfl rfl ?_
  refine o_pass rfl rfl rfl rfl ?_
  refine o_pass rfl rfl rfl rfl ?_
  refine o_pass rfl rfl rfl rfl ?_
  refine o_pass rfl rfl rfl rfl ?_
  refine Pstep.go (st_pickT rfl rfl rfl rfl) ?_
  refine o_nil ?_
  refine a_true rfl rfl ?_
  refine a_seq ?_
  refine a_region ?_
  refine Pstep.go (st_move rfl rfl) ?_
  refine Pstep.go (st_assign rfl rfl) ?_
  refine o_nil ?_
  refine a_ret ?_
  exact ⟨_, [], [], res_of rfl, rfl, rfl, rfl, rfl⟩
theorem valueS_nil (f : D) : PCalls Try.prog 49 [nilP, .d f] (.sl (some true) []) := by
  refine a_enter Try.func49 rfl rfl Try.ntmps49 rfl rfl rfl fun F hF => ?_
  refine a_seq ?_
  refine a_region ?_
  refine Pstep.go (st_assign rfl rfl) ?_
  refine o_nil ?_
  refine a_seq ?_
  refine a_region ?_
  refine Pstep.go (st_assign rfl rfl) ?_
  refine o_nil ?_
  refine a_seq ?_
  refine a_seq ?_
  refine a_region ?_
  refine Pstep.go (st_move rfl rfl) ?_
  first | refine Pstep.go (st_eql rfl rfl rfl) ?_ | refine Pstep.go (st_eqlSL rfl rfl rfl) ?_ | refine Pstep.go (st_eqlS rfl rfl rfl) ?_ | refine Pstep.go (st_eqlB Try.underlying39 rfl rfl rfl) ?_ | refine Pstep.go (st_eqlP Try.underlying39 rfl rfl rfl) ?_ | refine Pstep.go (st_eqlN Try.underlying39 rfl rfl) ?_ | refine Pstep.go (st_eqlF Try.underlying39 rfl rfl rfl) ?_ | refine Pstep.go (st_eqlFN Try.underlying39 rfl rfl) ?_
  refine Pstep.go (st_move rfl rfl) ?_
  refine o_setT 11 rfl (rfl) ?_
  refine o_pass rfl rfl rfl rfl ?_
  refine o_pass rfl rfl rfl rfl ?_
  refine o_pass rfl rfl rfl rfl ?_
  refine o_pass rfl rfl rfl rfl ?_
  refine o_pass rfl rfl rfl rfl ?_
  refine Pstep.go (st_pickT rfl rfl rfl rfl) ?_
  refine o_nil ?_
  refine a_true rfl rfl ?_
  refine a_seq ?_
  refine a_region ?_
  refine Pstep.go (st_move rfl rfl) ?_
  refine Pstep.go (st_assign rfl rfl) ?_
  refine o_nil ?_
  refine a_ret ?_
  exact ⟨_, [], [], res_of rfl, rfl, rfl, rfl, rfl⟩
theorem rUint_nil : PCalls Try.prog 20 [nilP] (.raw (.int .u64 0)) := by
  refine a_enter Try.func20 rfl rfl Try.ntmps20 rfl rfl rfl fun F hF => ?_
  refine a_seq ?_
  refine a_region ?_
  refine Pstep.go (st_assign rfl rfl) ?_
  refine o_nil ?_
  refine a_seq ?_
  refine a_region ?_
  refine Pstep.go (st_move rfl rfl) ?_
  refine Pstep.go (st_callP (valueU_nil _) rfl rfl) ?_
  refine Pstep.go (st_assign rfl rfl) ?_
  refine o_nil ?_
  refine a_ret ?_
  exact ⟨_, [], [], res_of rfl, rfl, rfl, rfl, rfl⟩
theorem rInt_nil : PCalls Try.prog 28 [nilP] (.raw (.int .i64 0)) := by
  refine a_enter Try.func28 rfl rfl Try.ntmps28 rfl rfl rfl fun F hF => ?_
  refine a_seq ?_
  refine a_region ?_
  refine Pstep.go (st_assign rfl rfl) ?_
  refine o_nil ?_
  refine a_seq ?_
  refine a_region ?_
  refine Pstep.go (st_move rfl rfl) ?_
  refine Pstep.go (st_callP (rUint_nil) rfl rfl) ?_
  refine Pstep.go (st_assign rfl rfl) ?_
  refine o_nil ?_
  refine a_seq ?_
  refine a_region ?_
  refine Pstep.go (st_move rfl rfl) ?_
  refine Pstep.go (st_shr rfl rfl (by omega) (rfl) rfl) ?_
  refine Pstep.go (st_conv rfl Try.underlying29 Try.underlying2 (rfl) rfl) ?_
  refine Pstep.go (st_move rfl rfl) ?_
  refine Pstep.go (st_bits rfl rfl rfl (rfl) rfl) ?_
  refine Pstep.go (st_conv rfl Try.underlying29 Try.underlying2 (rfl) rfl) ?_
  refine Pstep.go (st_neg rfl (rfl) rfl) ?_
  refine Pstep.go (st_bits rfl rfl rfl (rfl) rfl) ?_
  refine Pstep.go (st_assign rfl rfl) ?_
  refine o_nil ?_
  refine a_ret ?_
  exact ⟨_, [], [], res_of rfl, rfl, rfl, rfl, rfl⟩
theorem rBool_nil : PCalls Try.prog 25 [nilP] (.raw (.bool false)) := by
  refine a_enter Try.func25 rfl rfl Try.ntmps25 rfl rfl rfl fun F hF => ?_
  refine a_seq ?_
  refine a_region ?_
  refine Pstep.go (st_assign rfl rfl) ?_
  refine o_nil ?_
  refine a_seq ?_
  refine a_region ?_
  refine Pstep.go (st_move rfl rfl) ?_
  refine Pstep.go (st_callP (valueB_nil _) rfl rfl) ?_
  refine Pstep.go (st_assign rfl rfl) ?_
  refine o_nil ?_
  refine a_ret ?_
  exact ⟨_, [], [], res_of rfl, rfl, rfl, rfl, rfl⟩
theorem rBlob_nil : PCalls Try.prog 27 [nilP] (.sl (some true) []) := by
  refine a_enter Try.func27 rfl rfl Try.ntmps27 rfl rfl rfl fun F hF => ?_
  refine a_seq ?_
  refine a_region ?_
  refine Pstep.go (st_assign rfl rfl) ?_
  refine o_nil ?_
  refine a_seq ?_
  refine a_region ?_
  refine Pstep.go (st_move rfl rfl) ?_
  refine Pstep.go (st_callP (valueS_nil _) rfl rfl) ?_
  refine Pstep.go (st_assign rfl rfl) ?_
  refine o_nil ?_
  refine a_ret ?_
  exact ⟨_, [], [], res_of rfl, rfl, rfl, rfl, rfl⟩
theorem rString_nil : PCalls Try.prog 26 [nilP] (strD []) := by
  refine a_enter Try.func26 rfl rfl Try.ntmps26 rfl rfl rfl fun F hF => ?_
  refine a_seq ?_
  refine a_region ?_
  refine Pstep.go (st_assign rfl rfl) ?_
  refine o_nil ?_
  refine a_seq ?_
  refine a_region ?_
  refine Pstep.go (st_move rfl rfl) ?_
  refine Pstep.go (st_callP (rBlob_nil) rfl rfl) ?_
  refine Pstep.go (st_convBS [] rfl rfl Try.underlying27 Try.underlying5 Try.underlying9 rfl) ?_
  refine Pstep.go (st_assign rfl rfl) ?_
  refine o_nil ?_
  refine a_ret ?_
  exact ⟨_, [], [], res_of rfl, rfl, rfl, rfl, rfl⟩
/-- value over a nil reader, with ReadSlice's function. -/
theorem valueUX_nil (mx : Int) (fv : D) (g : FuncId) : ACalls Try.prog 45 [nilP, .fn g [.ptr 920 0 0, .ptr 921 0 0]] (capH mx fv) fun r H' => r = .d (.raw (.int .u64 0)) ∧ H' = capH mx fv := by
  refine a_enter Try.func45 rfl rfl Try.ntmps45 rfl rfl rfl fun F hF => ?_
  refine a_seq ?_
  refine a_region ?_
  refine Pstep.go (st_assign rfl rfl) ?_
  refine o_nil ?_
  refine a_seq ?_
  refine a_region ?_
  refine Pstep.go (st_assign rfl rfl) ?_
  refine o_nil ?_
  refine a_seq ?_
  refine a_seq ?_
  refine a_region ?_
  refine Pstep.go (st_move rfl rfl) ?_
  first | refine Pstep.go (st_eql rfl rfl rfl) ?_ | refine Pstep.go (st_eqlSL rfl rfl rfl) ?_ | refine Pstep.go (st_eqlS rfl rfl rfl) ?_ | refine Pstep.go (st_eqlB Try.underlying39 rfl rfl rfl) ?_ | refine Pstep.go (st_eqlP Try.underlying39 rfl rfl rfl) ?_ | refine Pstep.go (st_eqlN Try.underlying39 rfl rfl) ?_ | refine Pstep.go (st_eqlF Try.underlying39 rfl rfl rfl) ?_ | refine Pstep.go (st_eqlFN Try.underlying39 rfl rfl) ?_
  refine Pstep.go (st_move rfl rfl) ?_
  refine o_setT 11 rfl (rfl) ?_
  refine o_pass rfl rfl rfl rfl ?_
  refine o_pass rfl rfl rfl rfl ?_
  refine o_pass rfl rfl rfl rfl ?_
  refine o_pass rfl rfl rfl rfl ?_
  refine o_pass rfl rfl rfl rfl ?_
  refine Pstep.go (st_pickT rfl rfl rfl rfl) ?_
  refine o_nil ?_
  refine a_true rfl rfl ?_
  refine a_seq ?_
  refine a_region ?_
  refine Pstep.go (st_move rfl rfl) ?_
  refine Pstep.go (st_assign rfl rfl) ?_
  refine o_nil ?_
  refine a_ret ?_
  exact ⟨_, [920, 921], _, res_of rfl, rfl, rfl, rfl, rfl⟩
theorem readSlice_nilR (mx : Int) : PCalls Try.prog 32 [nilP, .d (.raw (.int .i64 mx)), .d (fnD 33)] (.sl (some true) []) := by
  refine a_enter Try.func32 rfl rfl Try.ntmps32 rfl rfl rfl fun F hF => ?_
  refine a_seq ?_
  refine a_region ?_
  refine Estep.go (st_box 920 rfl rfl rfl rfl rfl rfl rfl) ?_
  refine Estep.go (st_box 921 rfl rfl rfl rfl rfl rfl rfl) ?_
  refine Pstep.go (st_assign rfl rfl) ?_
  refine o_nil ?_
  refine a_seq ?_
  refine a_region ?_
  refine Pstep.go (st_move rfl rfl) ?_
  refine Pstep.go (st_makeFunc rfl rfl) ?_
  refine Estep.go (st_callD (valueUX_nil mx _ 51) rfl [920, 921] ⟨rfl, rfl, trivial⟩ rfl rfl rfl rfl rfl rfl rfl rfl rfl) ?_
  refine Pstep.go (st_assign rfl rfl) ?_
  refine o_nil ?_
  refine a_seq ?_
  refine a_region ?_
  refine Pstep.go (st_assign rfl rfl) ?_
  refine o_nil ?_
  refine a_seq ?_
  refine a_seq ?_
  refine a_region ?_
  refine Pstep.go (st_move rfl rfl) ?_
  refine Pstep.go (st_move rfl rfl) ?_
  refine o_nil ?_
  refine a_block ?_
  refine a_loopP (α := Nat) (fun p => ⟨28, [(8, (.d (.sl (some true) []))), (13, (.d (.raw (.int .u64 0)))), (14, (.d (.raw (.int .u64 0))))], []⟩) (fun p => p = 0) (fun p => p) (0) (rfl) (lep_of hF [] rfl rfl ⟨rfl, rfl, rfl, trivial⟩) ?_
  intro p hI
  refine a_seq ?_
  refine a_region ?_
  first | refine Pstep.go (st_lss rfl rfl rfl) ?_ | refine Pstep.go (st_lssS rfl rfl rfl) ?_
  refine o_nil ?_
  refine a_seq ?_
  refine a_false rfl (rfl) ?_
  refine a_exit ?_
  refine a_seq ?_
  refine a_region ?_
  refine Pstep.go (st_move rfl rfl) ?_
  refine Pstep.go (st_assign rfl rfl) ?_
  refine o_nil ?_
  refine a_ret ?_
  exact ⟨_, [], [], res_of rfl, rfl, rfl, rfl, rfl⟩
theorem zeroVa {k : Int} (h : k = 0 ∨ k = 1 ∨ k = 2 ∨ k = 3) : zeroV k = ⟨k, 0, 0, false, [], []⟩ := by unfold zeroV; rw [if_pos h]
theorem zeroVb {k : Int} (h0 : ¬ k = 0) (h1 : ¬ k = 1) (h2 : ¬ k = 2) (h3 : ¬ k = 3) : zeroV k = ⟨4, 0, 0, false, [], []⟩ := by unfold zeroV; rw [if_neg (by omega)]
theorem take_nil (k mx : Int) (blob : Bool) : PCalls Try.prog 36 [nilP, .d (.raw (.int .i64 k)), .d (.raw (.int .i64 mx)), .d (.raw (.bool blob))] (vD (zeroV k)) := by
  refine a_enter Try.func36 rfl rfl Try.ntmps36 rfl rfl rfl fun F hF => ?_
  refine a_seq ?_
  refine a_region ?_
  refine Estep.go (st_alloc 1 zl32 rfl rfl rfl rfl) ?_
  refine o_nil ?_
  refine a_seq ?_
  refine a_region ?_
  refine Pstep.go (st_move rfl rfl) ?_
  refine Pstep.go (st_build zl32 pl32 rfl rfl rfl) ?_
  refine o_weakD 11 (.agg [.raw (.int .i64 k), .raw (.int .u64 0), .raw (.int .i64 0), .raw (.bool false), .raw (.string ⟨#[]⟩), .sl none []]) rfl (fun _ _ _ h => aggNil h) ?_
  refine Estep.go (st_alloc 2 zl32 rfl rfl rfl rfl) ?_
  refine Estep.go (st_storeP rfl rfl rfl rfl rfl rfl rfl sz32) ?_
  refine o_nil ?_
  refine a_seq ?_
  refine a_seq ?_
  refine a_region ?_
  refine Pstep.go (st_move rfl rfl) ?_
  refine o_nil ?_
  refine a_block ?_
  refine a_seq ?_
  refine a_region ?_
  first | refine Pstep.go (st_eql rfl rfl rfl) ?_ | refine Pstep.go (st_eqlSL rfl rfl rfl) ?_ | refine Pstep.go (st_eqlS rfl rfl rfl) ?_ | refine Pstep.go (st_eqlB Try.underlying3 rfl rfl rfl) ?_ | refine Pstep.go (st_eqlP Try.underlying3 rfl rfl rfl) ?_ | refine Pstep.go (st_eqlN Try.underlying3 rfl rfl) ?_ | refine Pstep.go (st_eqlF Try.underlying3 rfl rfl rfl) ?_ | refine Pstep.go (st_eqlFN Try.underlying3 rfl rfl) ?_
  refine Pstep.go (st_assign rfl rfl) ?_
  refine o_nil ?_
  first | refine a_if rfl (fun h18 => ?_) (fun h18 => ?_) | refine a_cond rfl (fun h18 => ?_) (fun h18 => ?_)
  · refine a_region ?_
    refine Pstep.go (st_move rfl rfl) ?_
    refine Pstep.go (st_callP (rUint_nil) rfl rfl) ?_
    first | refine Pstep.go (st_fieldP rfl fi32_1 rfl rfl rfl) ?_ | refine Pstep.go (st_fieldF1 rfl fi32_1 rfl rfl rfl) ?_ | refine Pstep.go (st_fieldFS rfl fi32_1 rfl rfl rfl) ?_ | refine Pstep.go (st_fieldR rfl fi32_1 rfl rfl rfl) ?_
    refine Estep.go (st_storeP rfl rfl rfl rfl rfl rfl rfl sz29) ?_
    refine o_nil ?_
    refine a_seq ?_
    refine a_region ?_
    first | refine Pstep.go (st_loadDS rfl rfl rw32 rfl) ?_ | refine Pstep.go (st_loadPS rfl rfl rw32 rfl rfl rfl) ?_ | refine Pstep.go (st_loadRS rfl rfl (rfl) rfl rw32 rfl) ?_
    refine Estep.go (st_storeP rfl rfl rfl rfl rfl rfl rfl sz32) ?_
    refine o_nil ?_
    refine a_ret ?_
    rw [zeroVa (.inl h18)]
    exact ⟨_, [], [], ⟨_, .cons (.cellS rfl rfl rw32 rfl rfl) .nil, rfl⟩, rfl, rfl, rfl, rfl⟩
  · refine a_seq ?_
    refine a_region ?_
    first | refine Pstep.go (st_eql rfl rfl rfl) ?_ | refine Pstep.go (st_eqlSL rfl rfl rfl) ?_ | refine Pstep.go (st_eqlS rfl rfl rfl) ?_ | refine Pstep.go (st_eqlB Try.underlying3 rfl rfl rfl) ?_ | refine Pstep.go (st_eqlP Try.underlying3 rfl rfl rfl) ?_ | refine Pstep.go (st_eqlN Try.underlying3 rfl rfl) ?_ | refine Pstep.go (st_eqlF Try.underlying3 rfl rfl rfl) ?_ | refine Pstep.go (st_eqlFN Try.underlying3 rfl rfl) ?_
    refine Pstep.go (st_assign rfl rfl) ?_
    refine o_nil ?_
    first | refine a_if rfl (fun h23 => ?_) (fun h23 => ?_) | refine a_cond rfl (fun h23 => ?_) (fun h23 => ?_)
    · refine a_region ?_
      refine Pstep.go (st_move rfl rfl) ?_
      refine Pstep.go (st_callP (rInt_nil) rfl rfl) ?_
      first | refine Pstep.go (st_fieldP rfl fi32_2 rfl rfl rfl) ?_ | refine Pstep.go (st_fieldF1 rfl fi32_2 rfl rfl rfl) ?_ | refine Pstep.go (st_fieldFS rfl fi32_2 rfl rfl rfl) ?_ | refine Pstep.go (st_fieldR rfl fi32_2 rfl rfl rfl) ?_
      refine Estep.go (st_storeP rfl rfl rfl rfl rfl rfl rfl sz2) ?_
      refine o_nil ?_
      refine a_seq ?_
      refine a_region ?_
      first | refine Pstep.go (st_loadDS rfl rfl rw32 rfl) ?_ | refine Pstep.go (st_loadPS rfl rfl rw32 rfl rfl rfl) ?_ | refine Pstep.go (st_loadRS rfl rfl (rfl) rfl rw32 rfl) ?_
      refine Estep.go (st_storeP rfl rfl rfl rfl rfl rfl rfl sz32) ?_
      refine o_nil ?_
      refine a_ret ?_
      rw [zeroVa (.inr (.inl h23))]
      exact ⟨_, [], [], ⟨_, .cons (.cellS rfl rfl rw32 rfl rfl) .nil, rfl⟩, rfl, rfl, rfl, rfl⟩
    · refine a_seq ?_
      refine a_region ?_
      first | refine Pstep.go (st_eql rfl rfl rfl) ?_ | refine Pstep.go (st_eqlSL rfl rfl rfl) ?_ | refine Pstep.go (st_eqlS rfl rfl rfl) ?_ | refine Pstep.go (st_eqlB Try.underlying3 rfl rfl rfl) ?_ | refine Pstep.go (st_eqlP Try.underlying3 rfl rfl rfl) ?_ | refine Pstep.go (st_eqlN Try.underlying3 rfl rfl) ?_ | refine Pstep.go (st_eqlF Try.underlying3 rfl rfl rfl) ?_ | refine Pstep.go (st_eqlFN Try.underlying3 rfl rfl) ?_
      refine Pstep.go (st_assign rfl rfl) ?_
      refine o_nil ?_
      first | refine a_if rfl (fun h28 => ?_) (fun h28 => ?_) | refine a_cond rfl (fun h28 => ?_) (fun h28 => ?_)
      · refine a_region ?_
        refine Pstep.go (st_move rfl rfl) ?_
        refine Pstep.go (st_callP (rBool_nil) rfl rfl) ?_
        first | refine Pstep.go (st_fieldP rfl fi32_3 rfl rfl rfl) ?_ | refine Pstep.go (st_fieldF1 rfl fi32_3 rfl rfl rfl) ?_ | refine Pstep.go (st_fieldFS rfl fi32_3 rfl rfl rfl) ?_ | refine Pstep.go (st_fieldR rfl fi32_3 rfl rfl rfl) ?_
        refine Estep.go (st_storeP rfl rfl rfl rfl rfl rfl rfl sz4) ?_
        refine o_nil ?_
        refine a_seq ?_
        refine a_region ?_
        first | refine Pstep.go (st_loadDS rfl rfl rw32 rfl) ?_ | refine Pstep.go (st_loadPS rfl rfl rw32 rfl rfl rfl) ?_ | refine Pstep.go (st_loadRS rfl rfl (rfl) rfl rw32 rfl) ?_
        refine Estep.go (st_storeP rfl rfl rfl rfl rfl rfl rfl sz32) ?_
        refine o_nil ?_
        refine a_ret ?_
        rw [zeroVa (.inr (.inr (.inl h28)))]
        exact ⟨_, [], [], ⟨_, .cons (.cellS rfl rfl rw32 rfl rfl) .nil, rfl⟩, rfl, rfl, rfl, rfl⟩
      · refine a_seq ?_
        refine a_region ?_
        first | refine Pstep.go (st_eql rfl rfl rfl) ?_ | refine Pstep.go (st_eqlSL rfl rfl rfl) ?_ | refine Pstep.go (st_eqlS rfl rfl rfl) ?_ | refine Pstep.go (st_eqlB Try.underlying3 rfl rfl rfl) ?_ | refine Pstep.go (st_eqlP Try.underlying3 rfl rfl rfl) ?_ | refine Pstep.go (st_eqlN Try.underlying3 rfl rfl) ?_ | refine Pstep.go (st_eqlF Try.underlying3 rfl rfl rfl) ?_ | refine Pstep.go (st_eqlFN Try.underlying3 rfl rfl) ?_
        refine Pstep.go (st_assign rfl rfl) ?_
        refine o_nil ?_
        first | refine a_if rfl (fun h33 => ?_) (fun h33 => ?_) | refine a_cond rfl (fun h33 => ?_) (fun h33 => ?_)
        · refine a_seq ?_
          refine a_region ?_
          refine Pstep.go (st_move rfl rfl) ?_
          refine o_nil ?_
          first | refine a_if rfl (fun h35 => ?_) (fun h35 => ?_) | refine a_cond rfl (fun h35 => ?_) (fun h35 => ?_)
          · refine a_region ?_
            refine Pstep.go (st_move rfl rfl) ?_
            refine Pstep.go (st_callP (rBlob_nil) rfl rfl) ?_
            refine Pstep.go (st_convBS [] rfl rfl Try.underlying27 Try.underlying5 Try.underlying9 rfl) ?_
            first | refine Pstep.go (st_fieldP rfl fi32_4 rfl rfl rfl) ?_ | refine Pstep.go (st_fieldF1 rfl fi32_4 rfl rfl rfl) ?_ | refine Pstep.go (st_fieldFS rfl fi32_4 rfl rfl rfl) ?_ | refine Pstep.go (st_fieldR rfl fi32_4 rfl rfl rfl) ?_
            refine Estep.go (st_storeP rfl rfl rfl rfl rfl rfl rfl sz9) ?_
            refine o_nil ?_
            refine a_seq ?_
            refine a_region ?_
            first | refine Pstep.go (st_loadDS rfl rfl rw32 rfl) ?_ | refine Pstep.go (st_loadPS rfl rfl rw32 rfl rfl rfl) ?_ | refine Pstep.go (st_loadRS rfl rfl (rfl) rfl rw32 rfl) ?_
            refine Estep.go (st_storeP rfl rfl rfl rfl rfl rfl rfl sz32) ?_
            refine o_nil ?_
            refine a_ret ?_
            rw [zeroVa (.inr (.inr (.inr h33)))]
            exact ⟨_, [], [], ⟨_, .cons (.cellS rfl rfl rw32 rfl rfl) .nil, rfl⟩, rfl, rfl, rfl, rfl⟩
          · refine a_region ?_
            refine Pstep.go (st_move rfl rfl) ?_
            refine Pstep.go (st_callP (rString_nil) rfl rfl) ?_
            first | refine Pstep.go (st_fieldP rfl fi32_4 rfl rfl rfl) ?_ | refine Pstep.go (st_fieldF1 rfl fi32_4 rfl rfl rfl) ?_ | refine Pstep.go (st_fieldFS rfl fi32_4 rfl rfl rfl) ?_ | refine Pstep.go (st_fieldR rfl fi32_4 rfl rfl rfl) ?_
            refine Estep.go (st_storeP rfl rfl rfl rfl rfl rfl rfl sz9) ?_
            refine o_nil ?_
            refine a_seq ?_
            refine a_region ?_
            first | refine Pstep.go (st_loadDS rfl rfl rw32 rfl) ?_ | refine Pstep.go (st_loadPS rfl rfl rw32 rfl rfl rfl) ?_ | refine Pstep.go (st_loadRS rfl rfl (rfl) rfl rw32 rfl) ?_
            refine Estep.go (st_storeP rfl rfl rfl rfl rfl rfl rfl sz32) ?_
            refine o_nil ?_
            refine a_ret ?_
            rw [zeroVa (.inr (.inr (.inr h33)))]
            exact ⟨_, [], [], ⟨_, .cons (.cellS rfl rfl rw32 rfl rfl) .nil, rfl⟩, rfl, rfl, rfl, rfl⟩
        · refine a_seq ?_
          refine a_region ?_
          first | refine Pstep.go (st_fieldP rfl fi32_0 rfl rfl rfl) ?_ | refine Pstep.go (st_fieldF1 rfl fi32_0 rfl rfl rfl) ?_ | refine Pstep.go (st_fieldFS rfl fi32_0 rfl rfl rfl) ?_ | refine Pstep.go (st_fieldR rfl fi32_0 rfl rfl rfl) ?_
          refine Estep.go (st_storeP rfl rfl rfl rfl rfl rfl rfl sz3) ?_
          refine o_nil ?_
          refine a_region ?_
          refine Pstep.go (st_move rfl rfl) ?_
          refine Pstep.go (st_move rfl rfl) ?_
          refine Pstep.go (st_callP (readSlice_nilR mx) rfl rfl) ?_
          refine o_anyNil 16 rfl ?_
          first | refine Pstep.go (st_fieldP rfl fi32_5 rfl rfl rfl) ?_ | refine Pstep.go (st_fieldF1 rfl fi32_5 rfl rfl rfl) ?_ | refine Pstep.go (st_fieldFS rfl fi32_5 rfl rfl rfl) ?_ | refine Pstep.go (st_fieldR rfl fi32_5 rfl rfl rfl) ?_
          refine Estep.go (st_storeP rfl rfl rfl rfl rfl rfl rfl sz30) ?_
          refine o_nil ?_
          refine a_seq ?_
          refine a_region ?_
          first | refine Pstep.go (st_loadDS rfl rfl rw32 rfl) ?_ | refine Pstep.go (st_loadPS rfl rfl rw32 rfl rfl rfl) ?_ | refine Pstep.go (st_loadRS rfl rfl (rfl) rfl rw32 rfl) ?_
          refine Estep.go (st_storeP rfl rfl rfl rfl rfl rfl rfl sz32) ?_
          refine o_nil ?_
          refine a_ret ?_
          rw [zeroVb h18 h23 h28 h33]
          exact ⟨_, [], [], ⟨_, .cons (.cellS rfl rfl rw32 rfl rfl) .nil, rfl⟩, rfl, rfl, rfl, rfl⟩
theorem rErr_nil : PCalls Try.prog 22 [nilP] (.raw (.int .i64 1)) := by
  refine a_enter Try.func22 rfl rfl Try.ntmps22 rfl rfl rfl fun F hF => ?_
  refine a_seq ?_
  refine a_region ?_
  refine Pstep.go (st_assign rfl rfl) ?_
  refine o_nil ?_
  refine a_seq ?_
  refine a_seq ?_
  refine a_region ?_
  refine Pstep.go (st_move rfl rfl) ?_
  first | refine Pstep.go (st_eql rfl rfl rfl) ?_ | refine Pstep.go (st_eqlSL rfl rfl rfl) ?_ | refine Pstep.go (st_eqlS rfl rfl rfl) ?_ | refine Pstep.go (st_eqlB Try.underlying39 rfl rfl rfl) ?_ | refine Pstep.go (st_eqlP Try.underlying39 rfl rfl rfl) ?_ | refine Pstep.go (st_eqlN Try.underlying39 rfl rfl) ?_ | refine Pstep.go (st_eqlF Try.underlying39 rfl rfl rfl) ?_ | refine Pstep.go (st_eqlFN Try.underlying39 rfl rfl) ?_
  refine o_nil ?_
  refine a_true rfl (rfl) ?_
  refine a_seq ?_
  refine a_region ?_
  refine Pstep.go (st_assign rfl rfl) ?_
  refine o_nil ?_
  refine a_ret ?_
  exact ⟨_, [], [], res_of rfl, rfl, rfl, rfl, rfl⟩
theorem rOffset_nil : PCalls Try.prog 21 [nilP] (.raw (.int .i64 0)) := by
  refine a_enter Try.func21 rfl rfl Try.ntmps21 rfl rfl rfl fun F hF => ?_
  refine a_seq ?_
  refine a_region ?_
  refine Pstep.go (st_assign rfl rfl) ?_
  refine o_nil ?_
  refine a_seq ?_
  refine a_seq ?_
  refine a_region ?_
  refine Pstep.go (st_move rfl rfl) ?_
  first | refine Pstep.go (st_eql rfl rfl rfl) ?_ | refine Pstep.go (st_eqlSL rfl rfl rfl) ?_ | refine Pstep.go (st_eqlS rfl rfl rfl) ?_ | refine Pstep.go (st_eqlB Try.underlying39 rfl rfl rfl) ?_ | refine Pstep.go (st_eqlP Try.underlying39 rfl rfl rfl) ?_ | refine Pstep.go (st_eqlN Try.underlying39 rfl rfl) ?_ | refine Pstep.go (st_eqlF Try.underlying39 rfl rfl rfl) ?_ | refine Pstep.go (st_eqlFN Try.underlying39 rfl rfl) ?_
  refine o_nil ?_
  refine a_true rfl (rfl) ?_
  refine a_seq ?_
  refine a_region ?_
  refine Pstep.go (st_assign rfl rfl) ?_
  refine o_nil ?_
  refine a_ret ?_
  exact ⟨_, [], [], res_of rfl, rfl, rfl, rfl, rfl⟩
theorem rRest_nil : PCalls Try.prog 29 [nilP] (.raw (.int .i64 0)) := by
  refine a_enter Try.func29 rfl rfl Try.ntmps29 rfl rfl rfl fun F hF => ?_
  refine a_seq ?_
  refine a_region ?_
  refine Pstep.go (st_assign rfl rfl) ?_
  refine o_nil ?_
  refine a_seq ?_
  refine a_seq ?_
  refine a_region ?_
  refine Pstep.go (st_move rfl rfl) ?_
  first | refine Pstep.go (st_eql rfl rfl rfl) ?_ | refine Pstep.go (st_eqlSL rfl rfl rfl) ?_ | refine Pstep.go (st_eqlS rfl rfl rfl) ?_ | refine Pstep.go (st_eqlB Try.underlying39 rfl rfl rfl) ?_ | refine Pstep.go (st_eqlP Try.underlying39 rfl rfl rfl) ?_ | refine Pstep.go (st_eqlN Try.underlying39 rfl rfl) ?_ | refine Pstep.go (st_eqlF Try.underlying39 rfl rfl rfl) ?_ | refine Pstep.go (st_eqlFN Try.underlying39 rfl rfl) ?_
  refine o_nil ?_
  refine a_true rfl (rfl) ?_
  refine a_seq ?_
  refine a_region ?_
  refine Pstep.go (st_assign rfl rfl) ?_
  refine o_nil ?_
  refine a_ret ?_
  exact ⟨_, [], [], res_of rfl, rfl, rfl, rfl, rfl⟩
theorem rFail_nil (e : Int) : Void 23 [nilP, .d (.raw (.int .i64 e))] := by
  refine a_enter Try.func23 rfl rfl Try.ntmps23 rfl rfl rfl fun F hF => ?_
  refine a_seq ?_
  refine a_region ?_
  refine Pstep.go (st_move rfl rfl) ?_
  first | refine Pstep.go (st_neq rfl rfl rfl) ?_ | refine Pstep.go (st_neqSL rfl rfl rfl) ?_ | refine Pstep.go (st_neqS rfl rfl rfl) ?_ | refine Pstep.go (st_neqB Try.underlying39 rfl rfl rfl) ?_ | refine Pstep.go (st_neqP Try.underlying39 rfl rfl rfl) ?_ | refine Pstep.go (st_neqN Try.underlying39 rfl rfl) ?_ | refine Pstep.go (st_neqF Try.underlying39 rfl rfl rfl) ?_ | refine Pstep.go (st_neqFN Try.underlying39 rfl rfl) ?_
  refine Pstep.go (st_move rfl rfl) ?_
  refine o_setF 6 rfl (rfl) ?_
  refine o_pass rfl rfl rfl rfl ?_
  refine o_pass rfl rfl rfl rfl ?_
  refine o_pass rfl rfl rfl rfl ?_
  refine o_pass rfl rfl rfl rfl ?_
  refine o_pass rfl rfl rfl rfl ?_
  refine Pstep.go (st_pickF rfl rfl rfl rfl) ?_
  refine o_nil ?_
  refine a_false rfl rfl ?_
  refine a_skip ?_
  exact ⟨_, [], [], res_of rfl, rfl, rfl, rfl, rfl⟩
theorem rEnd_nil : PCalls Try.prog 24 [nilP] (.raw (.int .i64 1)) := by
  refine a_enter Try.func24 rfl rfl Try.ntmps24 rfl rfl rfl fun F hF => ?_
  refine a_seq ?_
  refine a_region ?_
  refine Pstep.go (st_assign rfl rfl) ?_
  refine o_nil ?_
  refine a_seq ?_
  refine a_seq ?_
  refine a_region ?_
  refine Pstep.go (st_move rfl rfl) ?_
  refine Pstep.go (st_callP (rErr_nil) rfl rfl) ?_
  refine Pstep.go (st_assign rfl rfl) ?_
  refine o_nil ?_
  refine a_seq ?_
  refine a_region ?_
  refine Pstep.go (st_move rfl rfl) ?_
  first | refine Pstep.go (st_neq rfl rfl rfl) ?_ | refine Pstep.go (st_neqSL rfl rfl rfl) ?_ | refine Pstep.go (st_neqS rfl rfl rfl) ?_ | refine Pstep.go (st_neqB Try.underlying38 rfl rfl rfl) ?_ | refine Pstep.go (st_neqP Try.underlying38 rfl rfl rfl) ?_ | refine Pstep.go (st_neqN Try.underlying38 rfl rfl) ?_ | refine Pstep.go (st_neqF Try.underlying38 rfl rfl rfl) ?_ | refine Pstep.go (st_neqFN Try.underlying38 rfl rfl) ?_
  refine Pstep.go (st_move rfl rfl) ?_
  refine o_setT 8 rfl (rfl) ?_
  refine o_pass rfl rfl rfl rfl ?_
  refine o_pass rfl rfl rfl rfl ?_
  refine o_pass rfl rfl rfl rfl ?_
  refine Pstep.go (st_pickT rfl rfl rfl rfl) ?_
  refine o_nil ?_
  refine a_true rfl rfl ?_
  refine a_seq ?_
  refine a_region ?_
  refine Pstep.go (st_move rfl rfl) ?_
  refine Pstep.go (st_assign rfl rfl) ?_
  refine o_nil ?_
  refine a_ret ?_
  exact ⟨_, [], [], res_of rfl, rfl, rfl, rfl, rfl⟩
end Go.Proofs.Ytjbghmlofjkcfaa
