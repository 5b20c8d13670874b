/- Layer 28: the reference's order of items; conversion back. -/
import Derived.Test.YtfmpiabmnjmobaaRes6
namespace Go.Proofs.Ytfmpiabmnjmobaa
open Go.RowKit

end Go.Proofs.Ytfmpiabmnjmobaa

/- Layer 28: a problem's room. -/
namespace Go.Proofs.Ytfmpiabmnjmobaa
open Go.RowKit

end Go.Proofs.Ytfmpiabmnjmobaa

/- Layer 28: copies of items. -/
namespace Go.Proofs.Ytfmpiabmnjmobaa
open Go.RowKit

set_option maxRecDepth 100000 in
theorem cloneP_p (l : List Post) (hl : l.length ≤ 1000000) : PCalls Try.prog 98 [.d (.sl none (l.map postD))] (.sl none (l.map postD)) := by
  refine a_enter Try.func98 rfl rfl Try.ntmps98 rfl rfl rfl fun F hF => ?_
  refine a_seq ?_
  refine a_region ?_
  refine Pstep.go (st_assign rfl rfl) ?_
  refine o_anyNil 2 rfl ?_
  refine o_nil ?_
  refine a_seq ?_
  refine a_seq ?_
  refine a_region ?_
  refine Pstep.go (st_move rfl rfl) ?_
  refine o_nilSplit 3 rfl (fun h0 => ?_) ?_
  · refine Pstep.go (st_eqlN Try.underlying30 rfl rfl) ?_
    refine o_nil ?_
    refine a_true rfl (rfl) ?_
    refine a_seq ?_
    refine a_region ?_
    refine Pstep.go (st_assign rfl rfl) ?_
    refine o_anyNil 2 rfl ?_
    refine o_nil ?_
    refine a_ret ?_
    exact ⟨_, [], [], res_of rfl, rfl, rfl, by first | (rw [h0]; done) | (rw [h0]), rfl⟩
  · refine Pstep.go (st_eqlN Try.underlying30 rfl rfl) ?_
    refine o_nil ?_
    refine a_false rfl (rfl) ?_
    refine a_skip ?_
    refine a_seq ?_
    refine a_region ?_
    refine Estep.go (st_buildSlice 20 sl30 rfl rfl rfl rfl rfl rfl rfl rfl) ?_
    refine Pstep.go (st_move rfl rfl) ?_
    refine Estep.go (st_appMD (([] : List Post)) (l) rfl rfl rfl rfl rfl rfl (fun _ => rfl) sl30 (by simp only [List.length_nil]; omega) rfl rfl rfl rfl) ?_
    refine o_freezeM (emb := postD) 7 20 ([] ++ l) rfl rfl rfl rfl rfl rfl rfl ?_
    refine Pstep.go (st_assign rfl rfl) ?_
    skip
    refine o_nil ?_
    refine a_ret ?_
    exact ⟨_, [], [], res_of rfl, rfl, rfl, rfl, rfl⟩
set_option maxRecDepth 100000 in
theorem cloneY_p (l : List Pay) (hl : l.length ≤ 1000000) : PCalls Try.prog 99 [.d (.sl none (l.map payD))] (.sl none (l.map payD)) := by
  refine a_enter Try.func99 rfl rfl Try.ntmps99 rfl rfl rfl fun F hF => ?_
  refine a_seq ?_
  refine a_region ?_
  refine Pstep.go (st_assign rfl rfl) ?_
  refine o_anyNil 2 rfl ?_
  refine o_nil ?_
  refine a_seq ?_
  refine a_seq ?_
  refine a_region ?_
  refine Pstep.go (st_move rfl rfl) ?_
  refine o_nilSplit 3 rfl (fun h0 => ?_) ?_
  · refine Pstep.go (st_eqlN Try.underlying31 rfl rfl) ?_
    refine o_nil ?_
    refine a_true rfl (rfl) ?_
    refine a_seq ?_
    refine a_region ?_
    refine Pstep.go (st_assign rfl rfl) ?_
    refine o_anyNil 2 rfl ?_
    refine o_nil ?_
    refine a_ret ?_
    exact ⟨_, [], [], res_of rfl, rfl, rfl, by first | (rw [h0]; done) | (rw [h0]), rfl⟩
  · refine Pstep.go (st_eqlN Try.underlying31 rfl rfl) ?_
    refine o_nil ?_
    refine a_false rfl (rfl) ?_
    refine a_skip ?_
    refine a_seq ?_
    refine a_region ?_
    refine Estep.go (st_buildSlice 20 sl31 rfl rfl rfl rfl rfl rfl rfl rfl) ?_
    refine Pstep.go (st_move rfl rfl) ?_
    refine Estep.go (st_appMD (([] : List Pay)) (l) rfl rfl rfl rfl rfl rfl (fun _ => rfl) sl31 (by simp only [List.length_nil]; omega) rfl rfl rfl rfl) ?_
    refine o_freezeM (emb := payD) 7 20 ([] ++ l) rfl rfl rfl rfl rfl rfl rfl ?_
    refine Pstep.go (st_assign rfl rfl) ?_
    skip
    refine o_nil ?_
    refine a_ret ?_
    exact ⟨_, [], [], res_of rfl, rfl, rfl, rfl, rfl⟩
end Go.Proofs.Ytfmpiabmnjmobaa
