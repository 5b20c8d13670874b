/- The walk of RecordLimits. -/
import Derived.Test.YtnflcmpdaoobcaaRecO
import Derived.Test.YtnflcmpdaoobcaaLaw2p
import Derived.Test.YtnflcmpdaoobcaaScanLaw
namespace Go.Proofs.Ytnflcmpdaoobcaa
open Go.RowKit

theorem encodeBig_p (l : List UInt8) (hn : 1048576 < l.length) : PCalls Try.prog 17 [.d (bytesD l)] (.tup [.sl (some true) [], .raw (.int .i64 5)]) := by
  refine a_enter Try.func17 rfl rfl Try.ntmps17 rfl rfl rfl fun F hF => ?_
  refine a_seq ?_
  refine a_region ?_
  refine Pstep.go (st_assign rfl rfl) ?_
  refine Pstep.go (st_assign rfl rfl) ?_
  refine o_nil ?_
  refine a_seq ?_
  refine a_seq ?_
  refine a_region ?_
  refine Pstep.go (st_move rfl rfl) ?_
  first | refine Pstep.go (st_lenMap rfl Try.underlying22 rfl) ?_ | refine Pstep.go (st_lenD rfl rfl Try.underlying22 rfl) ?_ | refine Pstep.go (st_lenO rfl Try.underlying22 rfl) ?_ | refine Pstep.go (st_lenS rfl Try.underlying22 rfl) ?_
  first | refine Pstep.go (st_gtr rfl rfl rfl) ?_ | refine Pstep.go (st_gtrS rfl rfl rfl) ?_
  refine o_nil ?_
  refine a_true rfl (by simp; omega) ?_
  refine a_seq ?_
  refine a_region ?_
  refine Pstep.go (st_assign rfl rfl) ?_
  refine Pstep.go (st_assign rfl rfl) ?_
  refine o_nil ?_
  refine a_ret ?_
  exact ⟨_, [], [], rfl, rfl, rfl, rfl, rfl⟩
theorem encodeAll_p (p q : List UInt8) (hp : p.length ≤ 1048576) (hq : 1048576 < q.length) : PCalls Try.prog 20 [.d (.sl none [bytesD p, bytesD q])] (.tup [.sl (some true) [], .raw (.int .i64 5)]) := by
  have he : (encL p).length ≤ 1048584 := by simp [encL, le4_length]; omega
  refine a_enter Try.func20 rfl rfl Try.ntmps20 rfl rfl rfl fun F hF => ?_
  refine a_seq ?_
  refine a_region ?_
  refine Pstep.go (st_assign rfl rfl) ?_
  refine Pstep.go (st_assign rfl rfl) ?_
  refine o_nil ?_
  refine a_seq ?_
  refine a_region ?_
  refine Pstep.go (st_assign rfl rfl) ?_
  refine o_nil ?_
  refine a_seq ?_
  refine a_seq ?_
  refine a_adopt 4 0 sl22 rfl rfl rfl rfl ?_
  refine a_region ?_
  refine Pstep.go (st_move rfl rfl) ?_
  first | refine Pstep.go (st_lenMap rfl Try.underlying29 rfl) ?_ | refine Pstep.go (st_lenD rfl rfl Try.underlying29 rfl) ?_ | refine Pstep.go (st_lenO rfl Try.underlying29 rfl) ?_ | refine Pstep.go (st_lenS rfl Try.underlying29 rfl) ?_
  refine Pstep.go (st_move rfl rfl) ?_
  refine o_nil ?_
  refine a_block ?_
  refine a_loop (α := Nat) (fun k => ⟨28, [(4, (.own 0 0 (if k = 0 then 0 else (encL p).length))), (9, (.d (.sl none [bytesD p, bytesD q]))), (10, (.d (.raw (.int .i64 2)))), (11, (.d (.raw (.int .i64 (k : Int)))))], [(0, [.rowD 5 1 (if k = 0 then [] else (encL p).map byteD)])]⟩) (fun k => k ≤ 1) (fun k => 2 - k) (0) (Nat.zero_le _) (le_of_has ⟨rfl, rfl, rfl, rfl, trivial⟩) ?_
  intro k hI
  refine a_seq ?_
  refine a_region ?_
  first | refine Pstep.go (st_lss rfl rfl rfl) ?_ | refine Pstep.go (st_lssS rfl rfl rfl) ?_
  refine o_nil ?_
  refine a_seq ?_
  refine a_true rfl (decide_eq_true (by omega)) ?_
  refine a_skip ?_
  refine a_seq ?_
  refine a_block ?_
  refine a_seq ?_
  refine a_region ?_
  rcases (show k = 0 ∨ k = 1 by omega) with rfl | rfl
  · first | refine Pstep.go (st_indexD (0) rfl rfl (rfl) (rfl) Try.underlying29 rfl sz22 rfl) ?_ | refine Pstep.go (st_indexO (0) rfl rfl (rfl) (rfl) rfl Try.underlying29 sz22 rfl) ?_
    first | refine Pstep.go (st_loadD1 rfl rfl on22 rfl) ?_ | refine Pstep.go (st_loadP rfl rfl rfl on22 rfl) ?_ | refine Pstep.go (st_loadR rfl rfl (rfl) rfl on22 rfl) ?_
    refine Pstep.go (st_assign rfl rfl) ?_
    refine o_nil ?_
    refine a_seq ?_
    refine a_region ?_
    refine Pstep.go (st_move rfl rfl) ?_
    refine Estep.go (st_callD (encode_o p hp 1) rfl [1] ⟨rfl, trivial⟩ rfl rfl rfl rfl rfl rfl rfl rfl rfl) ?_
    refine Pstep.go (st_move rfl rfl) ?_
    first | refine Pstep.go (st_extractD rfl rfl rfl) ?_ | refine Pstep.go (st_extract rfl rfl rfl) ?_
    first | refine Pstep.go (st_extractD rfl rfl rfl) ?_ | refine Pstep.go (st_extract rfl rfl rfl) ?_
    refine Pstep.go (st_assign rfl rfl) ?_
    refine Pstep.go (st_assign rfl rfl) ?_
    refine o_nil ?_
    refine a_seq ?_
    refine a_seq ?_
    refine a_region ?_
    refine Pstep.go (st_move rfl rfl) ?_
    first | refine Pstep.go (st_neq rfl rfl rfl) ?_ | refine Pstep.go (st_neqS rfl rfl rfl) ?_ | refine Pstep.go (st_neqB Try.underlying31 rfl rfl rfl) ?_ | refine Pstep.go (st_neqP rfl rfl rfl) ?_
    refine o_nil ?_
    refine a_false rfl (decide_eq_false (by simp)) ?_
    refine a_skip ?_
    refine a_region ?_
    refine Pstep.go (st_move rfl rfl) ?_
    refine Pstep.go (st_move rfl rfl) ?_
    refine Estep.go (st_appendO (zs := (encL p).map byteD) rfl rfl rfl (by simp) rfl (List.take_of_length_le (by simp)) (by simp) sl22 (by simp; omega) rfl rfl (by simp) rfl rfl) ?_
    refine o_as 25 (.own 0 0 (encL p).length) rfl (by simp) ?_
    refine Pstep.go (st_assign rfl rfl) ?_
    refine o_nil ?_
    refine a_only [0] hF rfl rfl ?_
    refine a_region ?_
    refine Pstep.go (st_add rfl rfl (IntWalk.i64_in _ (by omega)) rfl) ?_
    refine Pstep.go (st_move rfl rfl) ?_
    refine o_nil ?_
    exact ⟨1, by omega, by omega, ⟨rfl, rfl, fun _ _ => Has.get (l := [(4, _), (9, _), (10, _), (11, _)]) ⟨rfl, rfl, rfl, rfl, trivial⟩⟩⟩
  · first | refine Pstep.go (st_indexD (1) rfl rfl (rfl) (rfl) Try.underlying29 rfl sz22 rfl) ?_ | refine Pstep.go (st_indexO (1) rfl rfl (rfl) (rfl) rfl Try.underlying29 sz22 rfl) ?_
    first | refine Pstep.go (st_loadD1 rfl rfl on22 rfl) ?_ | refine Pstep.go (st_loadP rfl rfl rfl on22 rfl) ?_ | refine Pstep.go (st_loadR rfl rfl (rfl) rfl on22 rfl) ?_
    refine Pstep.go (st_assign rfl rfl) ?_
    refine o_nil ?_
    refine a_seq ?_
    refine a_region ?_
    refine Pstep.go (st_move rfl rfl) ?_
    refine Pstep.go (st_callP (encodeBig_p q hq) rfl rfl) ?_
    refine Pstep.go (st_move rfl rfl) ?_
    first | refine Pstep.go (st_extractD rfl rfl rfl) ?_ | refine Pstep.go (st_extract rfl rfl rfl) ?_
    first | refine Pstep.go (st_extractD rfl rfl rfl) ?_ | refine Pstep.go (st_extract rfl rfl rfl) ?_
    refine Pstep.go (st_assign rfl rfl) ?_
    refine Pstep.go (st_assign rfl rfl) ?_
    refine o_nil ?_
    refine a_seq ?_
    refine a_seq ?_
    refine a_region ?_
    refine Pstep.go (st_move rfl rfl) ?_
    first | refine Pstep.go (st_neq rfl rfl rfl) ?_ | refine Pstep.go (st_neqS rfl rfl rfl) ?_ | refine Pstep.go (st_neqB Try.underlying31 rfl rfl rfl) ?_ | refine Pstep.go (st_neqP rfl rfl rfl) ?_
    refine o_nil ?_
    refine a_true rfl (decide_eq_true (by decide)) ?_
    refine a_seq ?_
    refine a_region ?_
    refine Pstep.go (st_move rfl rfl) ?_
    refine Pstep.go (st_assign rfl rfl) ?_
    refine Pstep.go (st_assign rfl rfl) ?_
    refine o_nil ?_
    refine a_ret ?_
    exact ⟨_, [], [], rfl, rfl, rfl, rfl, rfl⟩

theorem repl_take (n : Nat) : (List.replicate n (D.raw (.int .u8 0))).take n = (List.replicate n (0 : UInt8)).map byteD := by
  rw [List.take_of_length_le (by rw [List.length_replicate]; exact Nat.le_refl _), List.map_replicate]; rfl
theorem repl_len (n : Nat) {z : D} : n ≤ (List.replicate n z).length := by rw [List.length_replicate]; exact Nat.le_refl _
theorem repl_len8 (n : Nat) {z : UInt8} : (List.replicate n z).length = n := List.length_replicate

theorem law5_p (z : Nat) (hz : z ≤ 255) (l0 : List UInt8) (h0 : l0.length ≤ maxLen) : PCalls Try.prog 7 [.d (.raw (.int .u8 (z : Int))), .d (bytesD l0)] (.raw (.bool true)) := by
  unfold maxLen at h0
  refine a_enter Try.func7 rfl rfl Try.ntmps7 rfl rfl rfl fun F hF => ?_
  refine a_seq ?_
  refine a_region ?_
  refine Pstep.go (st_assign rfl rfl) ?_
  refine o_nil ?_
  refine a_seq ?_
  refine a_region ?_
  refine Pstep.go (st_move rfl rfl) ?_
  refine Pstep.go (st_move rfl rfl) ?_
  first | refine Pstep.go (st_lenMap rfl Try.underlying22 rfl) ?_ | refine Pstep.go (st_lenD rfl rfl Try.underlying22 rfl) ?_ | refine Pstep.go (st_lenO rfl Try.underlying22 rfl) ?_ | refine Pstep.go (st_lenS rfl Try.underlying22 rfl) ?_
  obtain ⟨m, hm, hm1, hm2⟩ : ∃ m : Nat, (if (200 : Int) < (l0.length : Int) then (200 : Int) else (l0.length : Int)) = (m : Int) ∧ m ≤ l0.length ∧ m ≤ 200 := ⟨min l0.length 200, by omega, by omega, by omega⟩
  have hml : (l0.take m).length ≤ 200 := by rw [List.length_take]; omega
  have hel : (encL (l0.take m)).length ≤ 300 := by simp [encL, le4_length]; omega
  have hne : nextL (encL (l0.take m)) = (l0.take m, 8 + (l0.take m).length, 0) := by have := next_enc (l0.take m) [] (by omega); rwa [List.append_nil] at this
  refine Pstep.go (st_min rfl rfl (hm) rfl) ?_
  first | refine Pstep.go (st_sliceHi (m) rfl rfl rfl (by rw [List.length_map]; exact hm1) Try.underlying22 sz5 (by simp [D.cells, byteD]) (List.map_take.symm) rfl) ?_ | refine Pstep.go (st_sliceO (m) rfl rfl rfl (by rw [List.length_map]; exact hm1) rfl Try.underlying22 sz5 rfl) ?_
  refine Pstep.go (st_assign rfl rfl) ?_
  refine o_nil ?_
  refine a_seq ?_
  refine a_region ?_
  refine Pstep.go (st_move rfl rfl) ?_
  refine Pstep.go (st_conv rfl Try.underlying5 Try.underlying3 (IntWalk.i64_in _ (by omega)) rfl) ?_
  refine Pstep.go (st_add rfl rfl (IntWalk.i64_in _ (by omega)) rfl) ?_
  refine o_as 23 (.d (.raw (.int .i64 ((1048576 + z : Nat) : Int)))) rfl (by simp) ?_
  refine Estep.go (st_make 1 sl22 rfl rfl rfl (by omega) zd5 rfl rfl rfl rfl) ?_
  refine o_freeze (ys := (List.replicate (1048576 + z) 0).map byteD) 24 1 rfl rfl (repl_len _) (repl_take _) rfl rfl rfl rfl ?_
  rcases Nat.eq_zero_or_pos z with rfl | hz0
  · refine Estep.go (st_callD (encode_o (List.replicate (1048576 + 0) 0) (by rw [repl_len8]; omega) 2) rfl [2] ⟨rfl, trivial⟩ rfl rfl rfl rfl rfl rfl rfl rfl rfl) ?_
    refine Pstep.go (st_move rfl rfl) ?_
    first | refine Pstep.go (st_extractD rfl rfl rfl) ?_ | refine Pstep.go (st_extract rfl rfl rfl) ?_
    first | refine Pstep.go (st_extractD rfl rfl rfl) ?_ | refine Pstep.go (st_extract rfl rfl rfl) ?_
    refine Pstep.go (st_assign rfl rfl) ?_
    refine Pstep.go (st_assign rfl rfl) ?_
    refine o_nil ?_
    refine a_seq ?_
    refine a_region ?_
    refine Pstep.go (st_move rfl rfl) ?_
    refine Estep.go (st_make (n := 1048577) 3 sl22 rfl rfl rfl (by omega) zd5 rfl rfl rfl rfl) ?_
    refine o_freeze (ys := (List.replicate 1048577 0).map byteD) 30 3 rfl rfl (repl_len _) (repl_take _) rfl rfl rfl rfl ?_
    refine Estep.go (st_buildSlice 4 sl29 rfl rfl rfl rfl rfl rfl rfl rfl) ?_
    refine o_freeze (ys := [bytesD (l0.take m), bytesD (List.replicate 1048577 0)]) 31 4 rfl rfl (Nat.le_refl 2) rfl rfl rfl rfl rfl ?_
    refine Pstep.go (st_callP (encodeAll_p (l0.take m) (List.replicate 1048577 0) (by omega) (by rw [repl_len8]; omega)) rfl rfl) ?_
    refine Pstep.go (st_move rfl rfl) ?_
    first | refine Pstep.go (st_extractD rfl rfl rfl) ?_ | refine Pstep.go (st_extract rfl rfl rfl) ?_
    first | refine Pstep.go (st_extractD rfl rfl rfl) ?_ | refine Pstep.go (st_extract rfl rfl rfl) ?_
    refine Pstep.go (st_assign rfl rfl) ?_
    refine Pstep.go (st_assign rfl rfl) ?_
    refine o_nil ?_
    refine a_seq ?_
    refine a_seq ?_
    refine a_region ?_
    refine Pstep.go (st_move rfl rfl) ?_
    first | refine Pstep.go (st_eql rfl rfl rfl) ?_ | refine Pstep.go (st_eqlS rfl rfl rfl) ?_ | refine Pstep.go (st_eqlB Try.underlying31 rfl rfl rfl) ?_ | refine Pstep.go (st_eqlP rfl rfl rfl) ?_
    refine Pstep.go (st_move rfl rfl) ?_
    first | refine Pstep.go (st_eql rfl rfl rfl) ?_ | refine Pstep.go (st_eqlS rfl rfl rfl) ?_ | refine Pstep.go (st_eqlB Try.underlying5 rfl rfl rfl) ?_ | refine Pstep.go (st_eqlP rfl rfl rfl) ?_
    first | refine Pstep.go (st_neq rfl rfl rfl) ?_ | refine Pstep.go (st_neqS rfl rfl rfl) ?_ | refine Pstep.go (st_neqB Try.underlying4 rfl rfl rfl) ?_ | refine Pstep.go (st_neqP rfl rfl rfl) ?_
    refine Pstep.go (st_move rfl rfl) ?_
    refine o_setF 40 rfl (by simp) ?_
    refine o_run rfl rfl rfl ?_
    refine Pstep.go (st_move rfl rfl) ?_
    refine o_run rfl rfl rfl ?_
    first | refine Pstep.go (st_neq rfl rfl rfl) ?_ | refine Pstep.go (st_neqS rfl rfl rfl) ?_ | refine Pstep.go (st_neqB Try.underlying31 rfl rfl rfl) ?_ | refine Pstep.go (st_neqP rfl rfl rfl) ?_
    refine o_run rfl rfl rfl ?_
    refine Pstep.go (st_move rfl rfl) ?_
    refine o_setF 43 rfl (by simp) ?_
    refine o_pass rfl rfl rfl rfl ?_
    refine o_pass rfl rfl rfl rfl ?_
    refine o_pass rfl rfl rfl rfl ?_
    refine o_passU rfl rfl rfl ?_
    refine o_passU rfl rfl rfl ?_
    refine o_passU rfl rfl rfl ?_
    refine o_pass rfl rfl rfl rfl ?_
    refine o_run rfl rfl rfl ?_
    refine Pstep.go (st_pickF rfl rfl rfl rfl) ?_
    refine Pstep.go (st_pickF rfl rfl rfl rfl) ?_
    refine Pstep.go (st_move rfl rfl) ?_
    refine o_run rfl rfl rfl ?_
    refine Pstep.go (st_move rfl rfl) ?_
    refine o_run rfl rfl rfl ?_
    first | refine Pstep.go (st_neq rfl rfl rfl) ?_ | refine Pstep.go (st_neqS rfl rfl rfl) ?_ | refine Pstep.go (st_neqB Try.underlying31 rfl rfl rfl) ?_ | refine Pstep.go (st_neqP rfl rfl rfl) ?_
    refine Pstep.go (st_pickF rfl rfl rfl rfl) ?_
    refine Pstep.go (st_move rfl rfl) ?_
    refine o_setF 57 rfl (by simp) ?_
    refine o_run rfl rfl rfl ?_
    refine Pstep.go (st_move rfl rfl) ?_
    refine o_run rfl rfl rfl ?_
    first | refine Pstep.go (st_lenMap rfl Try.underlying22 rfl) ?_ | refine Pstep.go (st_lenD rfl rfl Try.underlying22 rfl) ?_ | refine Pstep.go (st_lenO rfl Try.underlying22 rfl) ?_ | refine Pstep.go (st_lenS rfl Try.underlying22 rfl) ?_
    refine o_run rfl rfl rfl ?_
    first | refine Pstep.go (st_neq rfl rfl rfl) ?_ | refine Pstep.go (st_neqS rfl rfl rfl) ?_ | refine Pstep.go (st_neqB Try.underlying3 rfl rfl rfl) ?_ | refine Pstep.go (st_neqP rfl rfl rfl) ?_
    refine Pstep.go (st_pickF rfl rfl rfl rfl) ?_
    refine o_nil ?_
    refine a_false rfl (by simp) ?_
    refine a_skip ?_
    refine a_seq ?_
    refine a_region ?_
    refine Pstep.go (st_move rfl rfl) ?_
    refine Estep.go (st_callD (encode_o (l0.take m) (by omega) 5) rfl [5] ⟨rfl, trivial⟩ rfl rfl rfl rfl rfl rfl rfl rfl rfl) ?_
    refine Pstep.go (st_move rfl rfl) ?_
    first | refine Pstep.go (st_extractD rfl rfl rfl) ?_ | refine Pstep.go (st_extract rfl rfl rfl) ?_
    first | refine Pstep.go (st_extractD rfl rfl rfl) ?_ | refine Pstep.go (st_extract rfl rfl rfl) ?_
    refine Pstep.go (st_assign rfl rfl) ?_
    refine Pstep.go (st_assign rfl rfl) ?_
    refine o_nil ?_
    refine a_seq ?_
    refine a_region ?_
    refine Pstep.go (st_move rfl rfl) ?_
    refine Estep.go (st_callB [5] (next_o (encL (l0.take m)) (by omega) _ _ _ hne 6) (by exact ⟨.inr ⟨_, _, rfl, .own rfl rfl (by simp) (List.take_of_length_le (by simp)), rfl⟩, trivial⟩) [6] ⟨rfl, trivial⟩ rfl rfl rfl rfl rfl rfl rfl (flat_bytes _ _ _) rfl rfl) ?_
    refine Pstep.go (st_move rfl rfl) ?_
    first | refine Pstep.go (st_extractD rfl rfl rfl) ?_ | refine Pstep.go (st_extract rfl rfl rfl) ?_
    first | refine Pstep.go (st_extractD rfl rfl rfl) ?_ | refine Pstep.go (st_extract rfl rfl rfl) ?_
    first | refine Pstep.go (st_extractD rfl rfl rfl) ?_ | refine Pstep.go (st_extract rfl rfl rfl) ?_
    refine Pstep.go (st_assign rfl rfl) ?_
    refine Pstep.go (st_assign rfl rfl) ?_
    refine Pstep.go (st_assign rfl rfl) ?_
    refine o_nil ?_
    refine a_seq ?_
    refine a_seq ?_
    refine a_only [5, 6] hF rfl rfl ?_
    refine a_region ?_
    refine Pstep.go (st_assign rfl rfl) ?_
    refine o_nil ?_
    refine a_block ?_
    refine a_loop (α := Nat × List UInt8) (fun p => ⟨101, [(1, .d (bytesD (l0.take m))), (9, (.own 5 0 (encL (l0.take m)).length)), (10, (.d (.raw (.int .i64 0)))), (11, (.own 6 0 (l0.take m).length)), (13, (.d (.raw (.int .i64 0)))), (14, (.d (.raw (.int .i64 (p.1 : Int)))))], [(5, [.rowD 5 1 (p.2.map byteD)]), (6, [.rowD 5 1 ((l0.take m).map byteD)])]⟩) (fun p => p.1 ≤ (encL (l0.take m)).length ∧ p.2.length = (encL (l0.take m)).length) (fun p => (encL (l0.take m)).length - p.1) ((0, encL (l0.take m))) (⟨Nat.zero_le _, rfl⟩) (le_of_has ⟨rfl, rfl, rfl, rfl, rfl, rfl, trivial⟩) ?_
    rintro ⟨k, Y⟩ ⟨hk, hY⟩
    change Y.length = _ at hY
    change k ≤ _ at hk
    refine a_seq ?_
    refine a_seq ?_
    refine a_region ?_
    refine Pstep.go (st_move rfl rfl) ?_
    refine Pstep.go (st_move rfl rfl) ?_
    first | refine Pstep.go (st_lenMap rfl Try.underlying22 rfl) ?_ | refine Pstep.go (st_lenD rfl rfl Try.underlying22 rfl) ?_ | refine Pstep.go (st_lenO rfl Try.underlying22 rfl) ?_ | refine Pstep.go (st_lenS rfl Try.underlying22 rfl) ?_
    first | refine Pstep.go (st_lss rfl rfl rfl) ?_ | refine Pstep.go (st_lssS rfl rfl rfl) ?_
    refine o_nil ?_
    first | refine a_if rfl (fun h76 => ?_) (fun h76 => ?_) | refine a_cond rfl (fun h76 => ?_) (fun h76 => ?_)
    · refine a_skip ?_
      refine a_seq ?_
      refine a_block ?_
      refine a_region ?_
      have k0 := lt_cast h76; have k1 : k < Y.length := (by omega)
      refine Pstep.go (st_move rfl rfl) ?_
      refine Pstep.go (st_move rfl rfl) ?_
      refine Pstep.go (st_move rfl rfl) ?_
      refine Pstep.go (st_move rfl rfl) ?_
      first | refine Pstep.go (st_indexD (k) rfl rfl (rfl) (k0) Try.underlying22 rfl sz5 rfl) ?_ | refine Pstep.go (st_indexO (k) rfl rfl (rfl) (k0) rfl Try.underlying22 sz5 rfl) ?_
      first | refine Pstep.go (st_loadD1 rfl rfl on5 rfl) ?_ | refine Pstep.go (st_loadP rfl rfl rfl on5 rfl) ?_ | refine Pstep.go (st_loadR rfl rfl (getm k1) rfl on5 rfl) ?_
      refine Pstep.go (st_bits rfl rfl rfl (xor8 Y[k] 255) rfl) ?_
      first | refine Pstep.go (st_indexD (k) rfl rfl (rfl) (k0) Try.underlying22 rfl sz5 rfl) ?_ | refine Pstep.go (st_indexO (k) rfl rfl (rfl) (k0) rfl Try.underlying22 sz5 rfl) ?_
      first | refine Estep.go (st_storeP rfl rfl rfl rfl rfl rfl rfl sz5) ?_ | refine Estep.go (st_storeR1 rfl rfl rfl rfl rfl (by rw [List.length_map]; exact k1) (List.map_set.symm) rfl sz5) ?_
      refine o_nil ?_
      refine a_region ?_
      refine Pstep.go (st_move rfl rfl) ?_
      refine Pstep.go (st_add rfl rfl (IntWalk.i64_in _ (by omega)) rfl) ?_
      refine Pstep.go (st_assign rfl rfl) ?_
      refine o_nil ?_
      exact ⟨(k + 1, Y.set k (Y[k] ^^^ 255)), ⟨by simp; omega, by simpa using hY⟩, by simp; omega, ⟨rfl, rfl, fun _ _ => Has.get (l := [(1, _), (9, _), (10, _), (11, _), (13, _), (14, _)]) ⟨rfl, rfl, rfl, rfl, rfl, rfl, trivial⟩⟩⟩
    · refine a_exit ?_
      refine a_seq ?_
      refine a_freeze 11 6 rfl rfl (by simp) (List.take_of_length_le (by simp)) rfl rfl rfl rfl ?_
      refine a_region ?_
      refine Pstep.go (st_callP (known_p) rfl rfl) ?_
      refine Pstep.go (st_move rfl rfl) ?_
      refine o_setT 88 rfl (rfl) ?_
      refine o_run rfl rfl rfl ?_
      refine Pstep.go (st_move rfl rfl) ?_
      refine o_run rfl rfl rfl ?_
      first | refine Pstep.go (st_eql rfl rfl rfl) ?_ | refine Pstep.go (st_eqlS rfl rfl rfl) ?_ | refine Pstep.go (st_eqlB Try.underlying31 rfl rfl rfl) ?_ | refine Pstep.go (st_eqlP rfl rfl rfl) ?_
      refine Pstep.go (st_pickT rfl rfl rfl rfl) ?_
      refine Pstep.go (st_move rfl rfl) ?_
      refine o_setT 92 rfl (by simp) ?_
      refine o_run rfl rfl rfl ?_
      refine Pstep.go (st_move rfl rfl) ?_
      refine o_run rfl rfl rfl ?_
      first | refine Pstep.go (st_eql rfl rfl rfl) ?_ | refine Pstep.go (st_eqlS rfl rfl rfl) ?_ | refine Pstep.go (st_eqlB Try.underlying31 rfl rfl rfl) ?_ | refine Pstep.go (st_eqlP rfl rfl rfl) ?_
      refine Pstep.go (st_pickT rfl rfl rfl rfl) ?_
      refine Pstep.go (st_move rfl rfl) ?_
      refine o_setT 96 rfl (by simp) ?_
      refine o_run rfl rfl rfl ?_
      refine Pstep.go (st_move rfl rfl) ?_
      refine o_run rfl rfl rfl ?_
      refine Pstep.go (st_move rfl rfl) ?_
      refine o_run rfl rfl rfl ?_
      refine Pstep.go (st_callP (same_p _ _ true (by simp)) rfl rfl) ?_
      refine Pstep.go (st_pickT rfl rfl rfl rfl) ?_
      refine Pstep.go (st_assign rfl rfl) ?_
      refine o_nil ?_
      refine a_ret ?_
      exact ⟨_, [], [], rfl, rfl, rfl, rfl, rfl⟩
  · refine Pstep.go (st_callP (encodeBig_p (List.replicate (1048576 + z) 0) (by rw [repl_len8]; omega)) rfl rfl) ?_
    refine Pstep.go (st_move rfl rfl) ?_
    first | refine Pstep.go (st_extractD rfl rfl rfl) ?_ | refine Pstep.go (st_extract rfl rfl rfl) ?_
    first | refine Pstep.go (st_extractD rfl rfl rfl) ?_ | refine Pstep.go (st_extract rfl rfl rfl) ?_
    refine Pstep.go (st_assign rfl rfl) ?_
    refine Pstep.go (st_assign rfl rfl) ?_
    refine o_nil ?_
    refine a_seq ?_
    refine a_region ?_
    refine Pstep.go (st_move rfl rfl) ?_
    refine Estep.go (st_make (n := 1048577) 3 sl22 rfl rfl rfl (by omega) zd5 rfl rfl rfl rfl) ?_
    refine o_freeze (ys := (List.replicate 1048577 0).map byteD) 30 3 rfl rfl (repl_len _) (repl_take _) rfl rfl rfl rfl ?_
    refine Estep.go (st_buildSlice 4 sl29 rfl rfl rfl rfl rfl rfl rfl rfl) ?_
    refine o_freeze (ys := [bytesD (l0.take m), bytesD (List.replicate 1048577 0)]) 31 4 rfl rfl (Nat.le_refl 2) rfl rfl rfl rfl rfl ?_
    refine Pstep.go (st_callP (encodeAll_p (l0.take m) (List.replicate 1048577 0) (by omega) (by rw [repl_len8]; omega)) rfl rfl) ?_
    refine Pstep.go (st_move rfl rfl) ?_
    first | refine Pstep.go (st_extractD rfl rfl rfl) ?_ | refine Pstep.go (st_extract rfl rfl rfl) ?_
    first | refine Pstep.go (st_extractD rfl rfl rfl) ?_ | refine Pstep.go (st_extract rfl rfl rfl) ?_
    refine Pstep.go (st_assign rfl rfl) ?_
    refine Pstep.go (st_assign rfl rfl) ?_
    refine o_nil ?_
    refine a_seq ?_
    refine a_seq ?_
    refine a_region ?_
    refine Pstep.go (st_move rfl rfl) ?_
    first | refine Pstep.go (st_eql rfl rfl rfl) ?_ | refine Pstep.go (st_eqlS rfl rfl rfl) ?_ | refine Pstep.go (st_eqlB Try.underlying31 rfl rfl rfl) ?_ | refine Pstep.go (st_eqlP rfl rfl rfl) ?_
    refine Pstep.go (st_move rfl rfl) ?_
    first | refine Pstep.go (st_eql rfl rfl rfl) ?_ | refine Pstep.go (st_eqlS rfl rfl rfl) ?_ | refine Pstep.go (st_eqlB Try.underlying5 rfl rfl rfl) ?_ | refine Pstep.go (st_eqlP rfl rfl rfl) ?_
    first | refine Pstep.go (st_neq rfl rfl rfl) ?_ | refine Pstep.go (st_neqS rfl rfl rfl) ?_ | refine Pstep.go (st_neqB Try.underlying4 rfl rfl rfl) ?_ | refine Pstep.go (st_neqP rfl rfl rfl) ?_
    refine Pstep.go (st_move rfl rfl) ?_
    refine o_setF 40 rfl (by simp; omega) ?_
    refine o_run rfl rfl rfl ?_
    refine Pstep.go (st_move rfl rfl) ?_
    refine o_run rfl rfl rfl ?_
    first | refine Pstep.go (st_neq rfl rfl rfl) ?_ | refine Pstep.go (st_neqS rfl rfl rfl) ?_ | refine Pstep.go (st_neqB Try.underlying31 rfl rfl rfl) ?_ | refine Pstep.go (st_neqP rfl rfl rfl) ?_
    refine o_run rfl rfl rfl ?_
    refine Pstep.go (st_move rfl rfl) ?_
    refine o_setT 43 rfl (by simp) ?_
    refine o_run rfl rfl rfl ?_
    refine Pstep.go (st_move rfl rfl) ?_
    refine o_run rfl rfl rfl ?_
    first | refine Pstep.go (st_neq rfl rfl rfl) ?_ | refine Pstep.go (st_neqS rfl rfl rfl) ?_ | refine Pstep.go (st_neqB Try.underlying31 rfl rfl rfl) ?_ | refine Pstep.go (st_neqP rfl rfl rfl) ?_
    refine o_run rfl rfl rfl ?_
    refine Pstep.go (st_move rfl rfl) ?_
    refine o_setF 46 rfl (by simp) ?_
    refine o_run rfl rfl rfl ?_
    refine Pstep.go (st_move rfl rfl) ?_
    refine o_run rfl rfl rfl ?_
    first | refine Pstep.go (st_lenMap rfl Try.underlying22 rfl) ?_ | refine Pstep.go (st_lenD rfl rfl Try.underlying22 rfl) ?_ | refine Pstep.go (st_lenO rfl Try.underlying22 rfl) ?_ | refine Pstep.go (st_lenS rfl Try.underlying22 rfl) ?_
    refine o_run rfl rfl rfl ?_
    first | refine Pstep.go (st_neq rfl rfl rfl) ?_ | refine Pstep.go (st_neqS rfl rfl rfl) ?_ | refine Pstep.go (st_neqB Try.underlying3 rfl rfl rfl) ?_ | refine Pstep.go (st_neqP rfl rfl rfl) ?_
    refine o_run rfl rfl rfl ?_
    refine Pstep.go (st_pickF rfl rfl rfl rfl) ?_
    refine o_run rfl rfl rfl ?_
    refine Pstep.go (st_pickT rfl rfl rfl rfl) ?_
    refine Pstep.go (st_pickF rfl rfl rfl rfl) ?_
    refine Pstep.go (st_move rfl rfl) ?_
    refine o_setF 53 rfl (by simp) ?_
    refine o_run rfl rfl rfl ?_
    refine Pstep.go (st_move rfl rfl) ?_
    refine o_run rfl rfl rfl ?_
    first | refine Pstep.go (st_neq rfl rfl rfl) ?_ | refine Pstep.go (st_neqS rfl rfl rfl) ?_ | refine Pstep.go (st_neqB Try.underlying31 rfl rfl rfl) ?_ | refine Pstep.go (st_neqP rfl rfl rfl) ?_
    refine Pstep.go (st_pickF rfl rfl rfl rfl) ?_
    refine Pstep.go (st_move rfl rfl) ?_
    refine o_setF 57 rfl (by simp) ?_
    refine o_run rfl rfl rfl ?_
    refine Pstep.go (st_move rfl rfl) ?_
    refine o_run rfl rfl rfl ?_
    first | refine Pstep.go (st_lenMap rfl Try.underlying22 rfl) ?_ | refine Pstep.go (st_lenD rfl rfl Try.underlying22 rfl) ?_ | refine Pstep.go (st_lenO rfl Try.underlying22 rfl) ?_ | refine Pstep.go (st_lenS rfl Try.underlying22 rfl) ?_
    refine o_run rfl rfl rfl ?_
    first | refine Pstep.go (st_neq rfl rfl rfl) ?_ | refine Pstep.go (st_neqS rfl rfl rfl) ?_ | refine Pstep.go (st_neqB Try.underlying3 rfl rfl rfl) ?_ | refine Pstep.go (st_neqP rfl rfl rfl) ?_
    refine Pstep.go (st_pickF rfl rfl rfl rfl) ?_
    refine o_nil ?_
    refine a_false rfl (by simp) ?_
    refine a_skip ?_
    refine a_seq ?_
    refine a_region ?_
    refine Pstep.go (st_move rfl rfl) ?_
    refine Estep.go (st_callD (encode_o (l0.take m) (by omega) 5) rfl [5] ⟨rfl, trivial⟩ rfl rfl rfl rfl rfl rfl rfl rfl rfl) ?_
    refine Pstep.go (st_move rfl rfl) ?_
    first | refine Pstep.go (st_extractD rfl rfl rfl) ?_ | refine Pstep.go (st_extract rfl rfl rfl) ?_
    first | refine Pstep.go (st_extractD rfl rfl rfl) ?_ | refine Pstep.go (st_extract rfl rfl rfl) ?_
    refine Pstep.go (st_assign rfl rfl) ?_
    refine Pstep.go (st_assign rfl rfl) ?_
    refine o_nil ?_
    refine a_seq ?_
    refine a_region ?_
    refine Pstep.go (st_move rfl rfl) ?_
    refine Estep.go (st_callB [5] (next_o (encL (l0.take m)) (by omega) _ _ _ hne 6) (by exact ⟨.inr ⟨_, _, rfl, .own rfl rfl (by simp) (List.take_of_length_le (by simp)), rfl⟩, trivial⟩) [6] ⟨rfl, trivial⟩ rfl rfl rfl rfl rfl rfl rfl (flat_bytes _ _ _) rfl rfl) ?_
    refine Pstep.go (st_move rfl rfl) ?_
    first | refine Pstep.go (st_extractD rfl rfl rfl) ?_ | refine Pstep.go (st_extract rfl rfl rfl) ?_
    first | refine Pstep.go (st_extractD rfl rfl rfl) ?_ | refine Pstep.go (st_extract rfl rfl rfl) ?_
    first | refine Pstep.go (st_extractD rfl rfl rfl) ?_ | refine Pstep.go (st_extract rfl rfl rfl) ?_
    refine Pstep.go (st_assign rfl rfl) ?_
    refine Pstep.go (st_assign rfl rfl) ?_
    refine Pstep.go (st_assign rfl rfl) ?_
    refine o_nil ?_
    refine a_seq ?_
    refine a_seq ?_
    refine a_only [5, 6] hF rfl rfl ?_
    refine a_region ?_
    refine Pstep.go (st_assign rfl rfl) ?_
    refine o_nil ?_
    refine a_block ?_
    refine a_loop (α := Nat × List UInt8) (fun p => ⟨101, [(1, .d (bytesD (l0.take m))), (9, (.own 5 0 (encL (l0.take m)).length)), (10, (.d (.raw (.int .i64 0)))), (11, (.own 6 0 (l0.take m).length)), (13, (.d (.raw (.int .i64 0)))), (14, (.d (.raw (.int .i64 (p.1 : Int)))))], [(5, [.rowD 5 1 (p.2.map byteD)]), (6, [.rowD 5 1 ((l0.take m).map byteD)])]⟩) (fun p => p.1 ≤ (encL (l0.take m)).length ∧ p.2.length = (encL (l0.take m)).length) (fun p => (encL (l0.take m)).length - p.1) ((0, encL (l0.take m))) (⟨Nat.zero_le _, rfl⟩) (le_of_has ⟨rfl, rfl, rfl, rfl, rfl, rfl, trivial⟩) ?_
    rintro ⟨k, Y⟩ ⟨hk, hY⟩
    change Y.length = _ at hY
    change k ≤ _ at hk
    refine a_seq ?_
    refine a_seq ?_
    refine a_region ?_
    refine Pstep.go (st_move rfl rfl) ?_
    refine Pstep.go (st_move rfl rfl) ?_
    first | refine Pstep.go (st_lenMap rfl Try.underlying22 rfl) ?_ | refine Pstep.go (st_lenD rfl rfl Try.underlying22 rfl) ?_ | refine Pstep.go (st_lenO rfl Try.underlying22 rfl) ?_ | refine Pstep.go (st_lenS rfl Try.underlying22 rfl) ?_
    first | refine Pstep.go (st_lss rfl rfl rfl) ?_ | refine Pstep.go (st_lssS rfl rfl rfl) ?_
    refine o_nil ?_
    first | refine a_if rfl (fun h76 => ?_) (fun h76 => ?_) | refine a_cond rfl (fun h76 => ?_) (fun h76 => ?_)
    · refine a_skip ?_
      refine a_seq ?_
      refine a_block ?_
      refine a_region ?_
      have k0 := lt_cast h76; have k1 : k < Y.length := (by omega)
      refine Pstep.go (st_move rfl rfl) ?_
      refine Pstep.go (st_move rfl rfl) ?_
      refine Pstep.go (st_move rfl rfl) ?_
      refine Pstep.go (st_move rfl rfl) ?_
      first | refine Pstep.go (st_indexD (k) rfl rfl (rfl) (k0) Try.underlying22 rfl sz5 rfl) ?_ | refine Pstep.go (st_indexO (k) rfl rfl (rfl) (k0) rfl Try.underlying22 sz5 rfl) ?_
      first | refine Pstep.go (st_loadD1 rfl rfl on5 rfl) ?_ | refine Pstep.go (st_loadP rfl rfl rfl on5 rfl) ?_ | refine Pstep.go (st_loadR rfl rfl (getm k1) rfl on5 rfl) ?_
      refine Pstep.go (st_bits rfl rfl rfl (xor8 Y[k] 255) rfl) ?_
      first | refine Pstep.go (st_indexD (k) rfl rfl (rfl) (k0) Try.underlying22 rfl sz5 rfl) ?_ | refine Pstep.go (st_indexO (k) rfl rfl (rfl) (k0) rfl Try.underlying22 sz5 rfl) ?_
      first | refine Estep.go (st_storeP rfl rfl rfl rfl rfl rfl rfl sz5) ?_ | refine Estep.go (st_storeR1 rfl rfl rfl rfl rfl (by rw [List.length_map]; exact k1) (List.map_set.symm) rfl sz5) ?_
      refine o_nil ?_
      refine a_region ?_
      refine Pstep.go (st_move rfl rfl) ?_
      refine Pstep.go (st_add rfl rfl (IntWalk.i64_in _ (by omega)) rfl) ?_
      refine Pstep.go (st_assign rfl rfl) ?_
      refine o_nil ?_
      exact ⟨(k + 1, Y.set k (Y[k] ^^^ 255)), ⟨by simp; omega, by simpa using hY⟩, by simp; omega, ⟨rfl, rfl, fun _ _ => Has.get (l := [(1, _), (9, _), (10, _), (11, _), (13, _), (14, _)]) ⟨rfl, rfl, rfl, rfl, rfl, rfl, trivial⟩⟩⟩
    · refine a_exit ?_
      refine a_seq ?_
      refine a_freeze 11 6 rfl rfl (by simp) (List.take_of_length_le (by simp)) rfl rfl rfl rfl ?_
      refine a_region ?_
      refine Pstep.go (st_callP (known_p) rfl rfl) ?_
      refine Pstep.go (st_move rfl rfl) ?_
      refine o_setT 88 rfl (rfl) ?_
      refine o_run rfl rfl rfl ?_
      refine Pstep.go (st_move rfl rfl) ?_
      refine o_run rfl rfl rfl ?_
      first | refine Pstep.go (st_eql rfl rfl rfl) ?_ | refine Pstep.go (st_eqlS rfl rfl rfl) ?_ | refine Pstep.go (st_eqlB Try.underlying31 rfl rfl rfl) ?_ | refine Pstep.go (st_eqlP rfl rfl rfl) ?_
      refine Pstep.go (st_pickT rfl rfl rfl rfl) ?_
      refine Pstep.go (st_move rfl rfl) ?_
      refine o_setT 92 rfl (by simp) ?_
      refine o_run rfl rfl rfl ?_
      refine Pstep.go (st_move rfl rfl) ?_
      refine o_run rfl rfl rfl ?_
      first | refine Pstep.go (st_eql rfl rfl rfl) ?_ | refine Pstep.go (st_eqlS rfl rfl rfl) ?_ | refine Pstep.go (st_eqlB Try.underlying31 rfl rfl rfl) ?_ | refine Pstep.go (st_eqlP rfl rfl rfl) ?_
      refine Pstep.go (st_pickT rfl rfl rfl rfl) ?_
      refine Pstep.go (st_move rfl rfl) ?_
      refine o_setT 96 rfl (by simp) ?_
      refine o_run rfl rfl rfl ?_
      refine Pstep.go (st_move rfl rfl) ?_
      refine o_run rfl rfl rfl ?_
      refine Pstep.go (st_move rfl rfl) ?_
      refine o_run rfl rfl rfl ?_
      refine Pstep.go (st_callP (same_p _ _ true (by simp)) rfl rfl) ?_
      refine Pstep.go (st_pickT rfl rfl rfl rfl) ?_
      refine Pstep.go (st_assign rfl rfl) ?_
      refine o_nil ?_
      refine a_ret ?_
      exact ⟨_, [], [], rfl, rfl, rfl, rfl, rfl⟩
theorem law5_i (z : Int) (l0 : List UInt8) (hz : IntKind.u8.min ≤ z ∧ z ≤ IntKind.u8.max) (h0 : l0.length ≤ maxLen) : PCalls Try.prog 7 [.d (.raw (.int .u8 z)), .d (bytesD l0)] (.raw (.bool true)) := by
  have h1 : IntKind.u8.min = 0 := rfl
  have h2 : IntKind.u8.max = 255 := rfl
  obtain ⟨n, rfl⟩ := Int.eq_ofNat_of_zero_le (show 0 ≤ z by omega)
  exact law5_p n (by omega) l0 h0
end Go.Proofs.Ytnflcmpdaoobcaa
