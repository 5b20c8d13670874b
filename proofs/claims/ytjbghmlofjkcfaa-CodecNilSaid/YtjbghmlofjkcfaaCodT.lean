/- The walks of ReadSlice and of the law's own reader. -/
import Derived.Test.YtjbghmlofjkcfaaCodZ
namespace Go.Proofs.Ytjbghmlofjkcfaa
open Go.RowKit

/-- n strings in a row; none at all if one fails. -/
def rdList (b : List UInt8) : Nat → List (List UInt8) → RSt → List (List UInt8) × RSt
  | 0, acc, s => (acc, s)
  | n + 1, acc, s => if (stS b s).2.2 = 0 then rdList b n (acc ++ [(stS b s).1]) (stS b s).2 else ([], (stS b s).2)
abbrev stN (mx : Int) (fn : Bool) (b : List UInt8) (s : RSt) := stepR (0 : Nat) (decN mx fn) b s
def rdSlice (mx : Int) (b : List UInt8) (s : RSt) : List (List UInt8) × RSt := rdList b (stN mx true b s).1 [] (stN mx true b s).2
theorem stN_le (mx : Int) (fn : Bool) (b : List UInt8) (s : RSt) : (stN mx fn b s).1 ≤ 1048576 := by
  unfold stN stepR
  split
  · split
    · unfold decN
      split
      · split
        · simp
        · split
          · dsimp only; omega
          · simp
      · simp
    · simp
  · simp
set_option maxHeartbeats 1000000 in
theorem readSlice_910 (mx : Int) (h1 : -9223372036854775808 ≤ mx) (h2 : mx ≤ 9223372036854775807) (b : List UInt8) (s : RSt) (hs : s.1 ≤ b.length) (hb : b.length ≤ 1000000000000) :
    ACalls Try.prog 32 [.ptr 910 0 0, .d (.raw (.int .i64 mx)), .d (fnD 33)] (rH b s.1 s.2) fun r H' => r = .d (strsD (rdSlice mx b s).1) ∧ H' = rH b (rdSlice mx b s).2.1 (rdSlice mx b s).2.2 := by
  have hv := valueUX mx (fnD 33) 51 (decN mx true) b s hs hb (decN_fits mx true) (sliceFn_a mx h1 h2 (some 33) _ (by rw [List.length_drop]; omega))
  have hn := stN_le mx true b s
  have hs1 : (stN mx true b s).2.1 ≤ b.length := stepR_le (decN_fits mx true) hs
  refine a_enter Try.func32 rfl rfl Try.ntmps32 rfl rfl rfl fun F hF => ?_
  refine a_seq ?_
  refine a_region ?_
  refine Estep.go (st_box 920 rfl rfl rfl rfl rfl rfl rfl) ?_
  refine Estep.go (st_box 921 rfl rfl rfl rfl rfl rfl rfl) ?_
  refine Pstep.go (st_assign rfl rfl) ?_
  refine o_nil ?_
  refine a_seq ?_
  refine a_region ?_
  refine Pstep.go (st_move rfl rfl) ?_
  refine Pstep.go (st_makeFunc rfl rfl) ?_
  refine Estep.go (st_callD hv rfl [910, 920, 921] ⟨rfl, rfl, rfl, trivial⟩ rfl rfl rfl rfl rfl rfl rfl rfl rfl) ?_
  refine Pstep.go (st_assign rfl rfl) ?_
  refine o_nil ?_
  refine a_seq ?_
  refine a_region ?_
  refine Pstep.go (st_assign rfl rfl) ?_
  refine o_adopt 8 930 sl30 rfl rfl rfl rfl ?_
  refine o_nil ?_
  refine a_seq ?_
  refine a_seq ?_
  refine a_region ?_
  refine Pstep.go (st_move rfl rfl) ?_
  refine Pstep.go (st_move rfl rfl) ?_
  refine o_nil ?_
  refine a_block ?_
  refine a_loopP (α := Nat × List (List UInt8) × RSt) (fun p => ⟨28, [(0, .ptr 910 0 0), (5, .ptr 921 0 0), (8, (.own 930 0 p.2.1.length)), (13, (.d (.raw (.int .u64 ((stN mx true b s).1 : Int))))), (14, (.d (.raw (.int .u64 (p.1 : Int)))))], [(910, [.blk 65 [.d (bytesD b), .d (.raw (.int .i64 (p.2.2.1 : Int))), .d (.raw (.int .i64 (p.2.2.2 : Int)))]]), (921, [.blk 51 [.d (fnD 33)]]), (930, [.rowD 9 1 (p.2.1.map strD)])]⟩) (fun p => p.1 ≤ (stN mx true b s).1 ∧ p.2.1.length = p.1 ∧ p.2.2.1 ≤ b.length ∧ rdList b ((stN mx true b s).1 - p.1) p.2.1 p.2.2 = rdSlice mx b s) (fun p => (stN mx true b s).1 - p.1) ((0, [], (stN mx true b s).2)) (⟨Nat.zero_le _, rfl, hs1, rfl⟩) (lep_of hF [910, 921, 930] rfl rfl ⟨rfl, rfl, rfl, rfl, rfl, trivial⟩) ?_
  rintro ⟨k, acc, s1⟩ ⟨hk0, hal, hle, hr⟩
  dsimp only at hk0 hal hle hr ⊢
  refine a_seq ?_
  refine a_region ?_
  first | refine Pstep.go (st_lss rfl rfl rfl) ?_ | refine Pstep.go (st_lssS rfl rfl rfl) ?_
  refine o_nil ?_
  refine a_seq ?_
  first | refine a_if rfl (fun h15 => ?_) (fun h15 => ?_) | refine a_cond rfl (fun h15 => ?_) (fun h15 => ?_)
  · refine a_skip ?_
    refine a_seq ?_
    refine a_block ?_
    refine a_seq ?_
    refine a_region ?_
    have hk : k < (stN mx true b s).1 := lt_cast h15
    have hk1 : (stN mx true b s).1 - k = ((stN mx true b s).1 - (k + 1)) + 1 := by omega
    first | refine Pstep.go (st_loadD1 rfl rfl on51 rfl) ?_ | refine Pstep.go (st_loadP rfl rfl rfl on51 rfl) ?_ | refine Pstep.go (st_loadR rfl rfl (rfl) rfl on51 rfl) ?_
    refine Pstep.go (st_move rfl rfl) ?_
    refine Estep.go (st_callVD (takeString_910 b s1 hle hb) rfl [910] ⟨rfl, trivial⟩ rfl rfl rfl rfl rfl rfl rfl rfl rfl) ?_
    refine Pstep.go (st_assign rfl rfl) ?_
    refine o_nil ?_
    refine a_seq ?_
    refine a_seq ?_
    refine a_region ?_
    refine Pstep.go (st_move rfl rfl) ?_
    refine Estep.go (st_callD (rErr_910 b (stS b s1).2) rfl [910] ⟨rfl, trivial⟩ rfl rfl rfl rfl rfl rfl rfl rfl rfl) ?_
    first | refine Pstep.go (st_neq rfl rfl rfl) ?_ | refine Pstep.go (st_neqSL rfl rfl rfl) ?_ | refine Pstep.go (st_neqS rfl rfl rfl) ?_ | refine Pstep.go (st_neqB Try.underlying38 rfl rfl rfl) ?_ | refine Pstep.go (st_neqP Try.underlying38 rfl rfl rfl) ?_ | refine Pstep.go (st_neqN Try.underlying38 rfl rfl) ?_ | refine Pstep.go (st_neqF Try.underlying38 rfl rfl rfl) ?_ | refine Pstep.go (st_neqFN Try.underlying38 rfl rfl) ?_
    refine o_nil ?_
    first | refine a_if rfl (fun h21 => ?_) (fun h21 => ?_) | refine a_cond rfl (fun h21 => ?_) (fun h21 => ?_)
    · refine a_seq ?_
      refine a_region ?_
      refine Pstep.go (st_assign rfl rfl) ?_
      refine o_anyNil 6 rfl ?_
      refine o_nil ?_
      refine a_ret ?_
      have e0 : ¬ (stS b s1).2.2 = 0 := by have h := h21; omega
      have e1 : rdSlice mx b s = ([], (stS b s1).2) := by rw [← hr, hk1, rdList, if_neg e0]
      rw [e1]
      exact ⟨_, [910], _, res_of rfl, rfl, rfl, rfl, rfl⟩
    · have e0 : (stS b s1).2.2 = 0 := by have h := h21; omega
      refine a_skip ?_
      refine a_region ?_
      refine Pstep.go (st_move rfl rfl) ?_
      refine Pstep.go (st_move rfl rfl) ?_
      refine Estep.go (st_buildSlice 922 sl30 rfl rfl rfl rfl rfl rfl rfl rfl) ?_
      first | refine Estep.go (st_appM (acc) ([(stS b s1).1]) rfl rfl rfl rfl rfl rfl rfl rfl sl30 (by rw [hal]; show (k + 1) * 16 ≤ _; omega) rfl rfl rfl rfl) ?_ | refine Estep.go (st_appMD (acc) ([(stS b s1).1]) rfl rfl rfl rfl rfl rfl (fun _ => rfl) sl30 (by rw [hal]; show (k + 1) * 16 ≤ _; omega) rfl rfl rfl rfl) ?_
      refine Pstep.go (st_assign rfl rfl) ?_
      refine o_nil ?_
      refine a_region ?_
      refine Pstep.go (st_add rfl rfl (IntWalk.u64_in _ (by omega)) rfl) ?_
      refine Pstep.go (st_move rfl rfl) ?_
      refine o_nil ?_
      exact ⟨(k + 1, acc ++ [(stS b s1).1], (stS b s1).2), ⟨by show k + 1 ≤ _; omega, by show (acc ++ [_]).length = k + 1; simp [hal], stepR_le decS_fits hle, by rw [← hr]; show rdList b _ _ _ = _; rw [hk1, rdList, if_pos e0]⟩, by show (stN mx true b s).1 - (k + 1) < (stN mx true b s).1 - k; omega, lep_of hF [910, 921, 930] rfl (rfl) ⟨rfl, rfl, rfl, rfl, rfl, trivial⟩⟩
  · refine a_exit ?_
    refine a_seq ?_
    refine a_region ?_
    refine Pstep.go (st_move rfl rfl) ?_
    refine Pstep.go (st_assign rfl rfl) ?_
    refine o_freezeM 6 930 acc rfl rfl rfl rfl rfl rfl rfl ?_
    refine o_nil ?_
    refine a_ret ?_
    have e1 : rdSlice mx b s = (acc, s1) := by have h := h15; rw [← hr, show (stN mx true b s).1 - k = 0 by omega]; rfl
    rw [e1]
    exact ⟨_, [910], _, res_of rfl, rfl, rfl, rfl, rfl⟩
end Go.Proofs.Ytjbghmlofjkcfaa
