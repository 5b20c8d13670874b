/- The walk of RecordChecksumAffine. -/
import Derived.Test.YtnflcmpdaoobcaaRecP
import Derived.Test.YtnflcmpdaoobcaaLaw2a
namespace Go.Proofs.Ytnflcmpdaoobcaa
open Go.RowKit

theorem getm {α β : Type} {f : α → β} {l : List α} {k : Nat} (h : k < l.length) : (l.map f)[k]? = some (f l[k]) := by simp [h]
theorem lt_cast {a b : Nat} (h : (a : Int) < (b : Int)) : a < b := by omega
theorem xor8 (x y : UInt8) : bitsOf .xor .u8 (x.toNat : Int) (y.toNat : Int) = ((x ^^^ y).toNat : Int) := by
  have := u8_xor_nat x.toNat y.toNat (byte_lt x) (byte_lt y)
  rw [UInt8.toNat_xor]; exact this
theorem xor3_k (a b c : List UInt8) (k : Nat) (ha : k ≤ a.length) (hb : k ≤ b.length) (hc : k ≤ c.length) : (xor3 (a.take k) (b.take k) (c.take k)).length = k := by
  rw [xor3_length _ _ _ (by simp; omega) (by simp; omega)]; simp; omega
theorem app3 (a b c : List UInt8) (k : Nat) (ha : k < a.length) (hb : k < b.length) (hc : k < c.length) :
    ((xor3 (a.take k) (b.take k) (c.take k)).map byteD).take k ++ [byteD (a[k] ^^^ b[k] ^^^ c[k])] = (xor3 (a.take (k + 1)) (b.take (k + 1)) (c.take (k + 1))).map byteD := by
  have := xor3_k a b c k (by omega) (by omega) (by omega)
  rw [List.take_of_length_le (by rw [List.length_map, this]; omega), xor3_take a b c k ha hb hc, List.map_append]; rfl

theorem law2_p (a b c : List UInt8) (ha : a.length ≤ maxLen) (hb : b.length ≤ maxLen) (hc : c.length ≤ maxLen) : PCalls Try.prog 4 [.d (bytesD a), .d (bytesD b), .d (bytesD c)] (.raw (.bool true)) := by
  unfold maxLen at ha hb hc
  refine a_enter Try.func4 rfl rfl Try.ntmps4 rfl rfl rfl fun F hF => ?_
  refine a_seq ?_
  refine a_region ?_
  refine Pstep.go (st_assign rfl rfl) ?_
  refine o_nil ?_
  refine a_seq ?_
  refine a_region ?_
  refine Pstep.go (st_move rfl rfl) ?_
  first | refine Pstep.go (st_lenMap rfl Try.underlying22 rfl) ?_ | refine Pstep.go (st_lenD rfl rfl Try.underlying22 rfl) ?_ | refine Pstep.go (st_lenO rfl Try.underlying22 rfl) ?_ | refine Pstep.go (st_lenS rfl Try.underlying22 rfl) ?_
  refine Pstep.go (st_move rfl rfl) ?_
  first | refine Pstep.go (st_lenMap rfl Try.underlying22 rfl) ?_ | refine Pstep.go (st_lenD rfl rfl Try.underlying22 rfl) ?_ | refine Pstep.go (st_lenO rfl Try.underlying22 rfl) ?_ | refine Pstep.go (st_lenS rfl Try.underlying22 rfl) ?_
  refine Pstep.go (st_move rfl rfl) ?_
  first | refine Pstep.go (st_lenMap rfl Try.underlying22 rfl) ?_ | refine Pstep.go (st_lenD rfl rfl Try.underlying22 rfl) ?_ | refine Pstep.go (st_lenO rfl Try.underlying22 rfl) ?_ | refine Pstep.go (st_lenS rfl Try.underlying22 rfl) ?_
  obtain ⟨n, hv, hna, hnb, hnc, hn0⟩ : ∃ n : Nat, min (min (min (a.length : Int) b.length) c.length) 1000 = (n : Int) ∧ n ≤ a.length ∧ n ≤ b.length ∧ n ≤ c.length ∧ n ≤ 1000 := ⟨min (min (min a.length b.length) c.length) 1000, by omega, by omega, by omega, by omega, by omega⟩
  refine Pstep.go (st_min4 rfl rfl rfl rfl (hv) rfl) ?_
  refine Pstep.go (st_assign rfl rfl) ?_
  refine o_nil ?_
  refine a_seq ?_
  refine a_region ?_
  refine Pstep.go (st_assign rfl rfl) ?_
  refine o_nil ?_
  refine a_seq ?_
  refine a_seq ?_
  refine a_adopt 8 0 sl22 rfl rfl rfl rfl ?_
  refine a_region ?_
  refine Pstep.go (st_assign rfl rfl) ?_
  refine o_nil ?_
  refine a_block ?_
  refine a_loop (α := Nat) (fun k => ⟨59, [(0, .d (bytesD a)), (1, .d (bytesD b)), (2, .d (bytesD c)), (7, (.d (.raw (.int .i64 (n : Int))))), (8, (.own 0 0 k)), (9, (.d (.raw (.int .i64 (k : Int)))))], [(0, [.rowD 5 1 ((xor3 (a.take k) (b.take k) (c.take k)).map byteD)])]⟩) (fun k => k ≤ n) (fun k => n - k) (0) (Nat.zero_le _) (le_of_has ⟨rfl, rfl, rfl, rfl, rfl, rfl, trivial⟩) ?_
  intro k hI
  refine a_seq ?_
  refine a_seq ?_
  refine a_region ?_
  refine Pstep.go (st_move rfl rfl) ?_
  refine Pstep.go (st_move rfl rfl) ?_
  first | refine Pstep.go (st_lss rfl rfl rfl) ?_ | refine Pstep.go (st_lssS rfl rfl rfl) ?_
  refine o_nil ?_
  first | refine a_if rfl (fun h19 => ?_) (fun h19 => ?_) | refine a_cond rfl (fun h19 => ?_) (fun h19 => ?_)
  · refine a_skip ?_
    refine a_seq ?_
    refine a_block ?_
    refine a_drawn [[], [], [], [1, 2], [1, 2, 3], [], [], [5, 6], [5, 6, 7], [1, 2, 3, 4, 5, 6, 7, 8], [], [], [10, 11], [10, 11, 12], [1, 2, 3, 4, 5, 6, 7, 8, 9, 10, 11, 12, 13], [1, 2, 3, 4, 5, 6, 7, 8, 9, 10, 11, 12, 13, 14], [0, 1, 2, 3, 4, 5, 6, 7, 8, 9, 10, 11, 12, 13, 14, 15], [0, 1, 2, 3, 4, 5, 6, 7, 8, 9, 10, 11, 12, 13, 14, 15, 16]] mixed rfl ?_
    refine dws ?_
    have k0 := lt_cast h19; have k1 : k < a.length := (by omega); have k2 : k < b.length := (by omega); have k3 : k < c.length := (by omega); have k4 := xor3_k a b c k (by omega) (by omega) (by omega)
    first | refine d_pure [8] [] rfl rfl (fun _ => gp_none (st_move rfl rfl)) ?_ | refine d_pureA [8] rfl rfl (fun _ => gp_none (st_move rfl rfl)) ?_
    first | refine d_pure [0] [] rfl rfl (fun _ => gp_none (st_move rfl rfl)) ?_ | refine d_pureA [0] rfl rfl (fun _ => gp_none (st_move rfl rfl)) ?_
    first | refine d_pure [9] [] rfl rfl (fun _ => gp_none (st_move rfl rfl)) ?_ | refine d_pureA [9] rfl rfl (fun _ => gp_none (st_move rfl rfl)) ?_
    first | refine d_pure [23, 24] [] rfl rfl (fun _ => gp_none (st_indexD (k) rfl rfl (rfl) (getm k1) Try.underlying22 rfl sz5 rfl)) ?_ | refine d_pureA [23, 24] rfl rfl (fun _ => gp_none (st_indexD (k) rfl rfl (rfl) (getm k1) Try.underlying22 rfl sz5 rfl)) ?_ | refine d_pure [23, 24] [] rfl rfl (fun _ => gp_none (st_indexO (k) rfl rfl (rfl) (getm k1) rfl Try.underlying22 sz5 rfl)) ?_ | refine d_pureA [23, 24] rfl rfl (fun _ => gp_none (st_indexO (k) rfl rfl (rfl) (getm k1) rfl Try.underlying22 sz5 rfl)) ?_
    first | refine d_pure [25] [] rfl rfl (fun _ => gp_none (st_loadD1 rfl rfl on5 rfl)) ?_ | refine d_pureA [25] rfl rfl (fun _ => gp_none (st_loadD1 rfl rfl on5 rfl)) ?_ | refine d_pure [25] [] rfl rfl (fun _ => gp_none (st_loadP rfl rfl rfl on5 rfl)) ?_ | refine d_pureA [25] rfl rfl (fun _ => gp_none (st_loadP rfl rfl rfl on5 rfl)) ?_ | refine d_pure [25] [] rfl rfl (fun _ => gp_none (st_loadR rfl rfl (rfl) rfl on5 rfl)) ?_ | refine d_pureA [25] rfl rfl (fun _ => gp_none (st_loadR rfl rfl (rfl) rfl on5 rfl)) ?_
    first | refine d_pure [1] [] rfl rfl (fun _ => gp_none (st_move rfl rfl)) ?_ | refine d_pureA [1] rfl rfl (fun _ => gp_none (st_move rfl rfl)) ?_
    first | refine d_pure [9] [] rfl rfl (fun _ => gp_none (st_move rfl rfl)) ?_ | refine d_pureA [9] rfl rfl (fun _ => gp_none (st_move rfl rfl)) ?_
    first | refine d_pure [27, 28] [] rfl rfl (fun _ => gp_none (st_indexD (k) rfl rfl (rfl) (getm k2) Try.underlying22 rfl sz5 rfl)) ?_ | refine d_pureA [27, 28] rfl rfl (fun _ => gp_none (st_indexD (k) rfl rfl (rfl) (getm k2) Try.underlying22 rfl sz5 rfl)) ?_ | refine d_pure [27, 28] [] rfl rfl (fun _ => gp_none (st_indexO (k) rfl rfl (rfl) (getm k2) rfl Try.underlying22 sz5 rfl)) ?_ | refine d_pureA [27, 28] rfl rfl (fun _ => gp_none (st_indexO (k) rfl rfl (rfl) (getm k2) rfl Try.underlying22 sz5 rfl)) ?_
    first | refine d_pure [29] [] rfl rfl (fun _ => gp_none (st_loadD1 rfl rfl on5 rfl)) ?_ | refine d_pureA [29] rfl rfl (fun _ => gp_none (st_loadD1 rfl rfl on5 rfl)) ?_ | refine d_pure [29] [] rfl rfl (fun _ => gp_none (st_loadP rfl rfl rfl on5 rfl)) ?_ | refine d_pureA [29] rfl rfl (fun _ => gp_none (st_loadP rfl rfl rfl on5 rfl)) ?_ | refine d_pure [29] [] rfl rfl (fun _ => gp_none (st_loadR rfl rfl (rfl) rfl on5 rfl)) ?_ | refine d_pureA [29] rfl rfl (fun _ => gp_none (st_loadR rfl rfl (rfl) rfl on5 rfl)) ?_
    first | refine d_pure [26, 30] [] rfl rfl (fun _ => gp_none (st_bits rfl rfl rfl (xor8 a[k] b[k]) rfl)) ?_ | refine d_pureA [26, 30] rfl rfl (fun _ => gp_none (st_bits rfl rfl rfl (xor8 a[k] b[k]) rfl)) ?_
    first | refine d_pure [2] [] rfl rfl (fun _ => gp_none (st_move rfl rfl)) ?_ | refine d_pureA [2] rfl rfl (fun _ => gp_none (st_move rfl rfl)) ?_
    first | refine d_pure [9] [] rfl rfl (fun _ => gp_none (st_move rfl rfl)) ?_ | refine d_pureA [9] rfl rfl (fun _ => gp_none (st_move rfl rfl)) ?_
    first | refine d_pure [32, 33] [] rfl rfl (fun _ => gp_none (st_indexD (k) rfl rfl (rfl) (getm k3) Try.underlying22 rfl sz5 rfl)) ?_ | refine d_pureA [32, 33] rfl rfl (fun _ => gp_none (st_indexD (k) rfl rfl (rfl) (getm k3) Try.underlying22 rfl sz5 rfl)) ?_ | refine d_pure [32, 33] [] rfl rfl (fun _ => gp_none (st_indexO (k) rfl rfl (rfl) (getm k3) rfl Try.underlying22 sz5 rfl)) ?_ | refine d_pureA [32, 33] rfl rfl (fun _ => gp_none (st_indexO (k) rfl rfl (rfl) (getm k3) rfl Try.underlying22 sz5 rfl)) ?_
    first | refine d_pure [34] [] rfl rfl (fun _ => gp_none (st_loadD1 rfl rfl on5 rfl)) ?_ | refine d_pureA [34] rfl rfl (fun _ => gp_none (st_loadD1 rfl rfl on5 rfl)) ?_ | refine d_pure [34] [] rfl rfl (fun _ => gp_none (st_loadP rfl rfl rfl on5 rfl)) ?_ | refine d_pureA [34] rfl rfl (fun _ => gp_none (st_loadP rfl rfl rfl on5 rfl)) ?_ | refine d_pure [34] [] rfl rfl (fun _ => gp_none (st_loadR rfl rfl (rfl) rfl on5 rfl)) ?_ | refine d_pureA [34] rfl rfl (fun _ => gp_none (st_loadR rfl rfl (rfl) rfl on5 rfl)) ?_
    first | refine d_pure [31, 35] [] rfl rfl (fun _ => gp_none (st_bits rfl rfl rfl (xor8 (a[k] ^^^ b[k]) c[k]) rfl)) ?_ | refine d_pureA [31, 35] rfl rfl (fun _ => gp_none (st_bits rfl rfl rfl (xor8 (a[k] ^^^ b[k]) c[k]) rfl)) ?_
    refine d_eff [36] [1] [(37, _)] rfl rfl (fun _ => ge_none (st_buildSlice 1 sl22 rfl rfl rfl rfl rfl rfl rfl rfl)) (.inr ⟨37, _, rfl, rfl, rfl, rfl, rfl⟩) rfl rfl rfl rfl rfl ?_
    refine dwc 16 rfl rfl rfl ?_
    refine dw1 17 rfl rfl ?_
    refine Estep.go (st_appendO rfl rfl rfl (by rw [List.length_map, k4]; exact Nat.le_refl _) rfl rfl (by simp) sl22 (by omega) rfl rfl (app3 a b c k k1 k2 k3) rfl rfl) ?_
    refine o_nil ⟨rfl, ?_⟩
    refine dw1 18 rfl rfl ?_
    refine Pstep.go (st_assign rfl rfl) ?_
    refine o_nil ⟨rfl, ?_⟩
    refine dwe ?_
    refine a_only [0] hF rfl rfl ?_
    refine a_region ?_
    refine Pstep.go (st_move rfl rfl) ?_
    refine Pstep.go (st_add rfl rfl (IntWalk.i64_in _ (by omega)) rfl) ?_
    refine Pstep.go (st_assign rfl rfl) ?_
    refine o_nil ?_
    exact ⟨k + 1, by omega, by omega, ⟨rfl, rfl, fun _ _ => Has.get (l := [(0, _), (1, _), (2, _), (7, _), (8, _), (9, _)]) ⟨rfl, rfl, rfl, rfl, rfl, rfl, trivial⟩⟩⟩
  · refine a_exit ?_
    refine a_seq ?_
    obtain rfl : k = n := by omega
    have k4 := xor3_k a b c k (by omega) (by omega) (by omega)
    refine a_freeze 8 0 rfl rfl (by rw [List.length_map, k4]; exact Nat.le_refl _) (List.take_of_length_le (by rw [List.length_map, k4]; exact Nat.le_refl _)) rfl rfl rfl rfl ?_
    have q1 : (a.take k).length ≤ 140737488355328 := by rw [List.length_take]; omega
    have q2 : (b.take k).length ≤ 140737488355328 := by rw [List.length_take]; omega
    have q3 : (c.take k).length ≤ 140737488355328 := by rw [List.length_take]; omega
    have x1 := crc_lt (a.take k); have x2 := crc_lt (b.take k); have x3 := crc_lt (c.take k)
    have x12 : crc (a.take k) ^^^ crc (b.take k) < 4294967296 := Nat.xor_lt_two_pow (n := 32) x1 x2
    refine a_drawn [[], [0], [0, 1], [0, 1, 2], [0, 1], [0, 1], [0, 1, 4, 5], [0, 1, 2, 3, 4, 5, 6], [0, 1], [0, 1], [0, 1, 8, 9], [0, 1, 2, 3, 4, 5, 6, 7, 8, 9, 10], [0, 1, 2, 3, 4, 5, 6, 7, 8, 9, 10, 11], [0, 1], [0, 1], [0, 1, 13, 14], [0, 1, 2, 3, 4, 5, 6, 7, 8, 9, 10, 11, 13, 14, 15], [0, 1, 2, 3, 4, 5, 6, 7, 8, 9, 10, 11, 12, 13, 14, 15, 16], [0, 1, 2, 3, 4, 5, 6, 7, 8, 9, 10, 11, 12, 13, 14, 15, 16, 17], [0, 1, 2, 3, 4, 5, 6, 7, 8, 9, 10, 11, 12, 13, 14, 15, 16, 17, 18], [0, 1, 2, 3, 4, 5, 6, 7, 8, 9, 10, 11, 12, 13, 14, 15, 16, 17, 18, 19]] mixed rfl ?_
    refine dw1 1 rfl rfl ?_
    refine Pstep.go (st_callP (known_p) rfl rfl) ?_
    refine o_nil ⟨rfl, ?_⟩
    refine dw1 2 rfl rfl ?_
    refine Pstep.go (st_move rfl rfl) ?_
    refine o_setT 40 rfl (rfl) ?_
    refine o_nil ⟨rfl, ?_⟩
    refine dws ?_
    first | refine d_pure [8, 40] [] rfl rfl (fun _ => gp_run rfl rfl rfl (st_move rfl rfl)) ?_ | refine d_pureA [8, 40] rfl rfl (fun _ => gp_run rfl rfl rfl (st_move rfl rfl)) ?_
    first | refine d_pure [41, 40] [] rfl rfl (fun _ => gp_run rfl rfl rfl (st_callP (checksum_p _ _ rfl (by rw [k4]; omega)) rfl rfl)) ?_ | refine d_pureA [41, 40] rfl rfl (fun _ => gp_run rfl rfl rfl (st_callP (checksum_p _ _ rfl (by rw [k4]; omega)) rfl rfl)) ?_
    first | refine d_pure [0, 40] [] rfl rfl (fun _ => gp_run rfl rfl rfl (st_move rfl rfl)) ?_ | refine d_pureA [0, 40] rfl rfl (fun _ => gp_run rfl rfl rfl (st_move rfl rfl)) ?_
    first | refine d_pure [7, 40] [] rfl rfl (fun _ => gp_run rfl rfl rfl (st_move rfl rfl)) ?_ | refine d_pureA [7, 40] rfl rfl (fun _ => gp_run rfl rfl rfl (st_move rfl rfl)) ?_
    first | refine d_pure [43, 44, 40] [] rfl rfl (fun _ => gp_run rfl rfl rfl (st_sliceHi (k) rfl rfl rfl (by rw [List.length_map]; omega) Try.underlying22 sz5 (by simp [D.cells, byteD]) (List.map_take.symm) rfl)) ?_ | refine d_pureA [43, 44, 40] rfl rfl (fun _ => gp_run rfl rfl rfl (st_sliceHi (k) rfl rfl rfl (by rw [List.length_map]; omega) Try.underlying22 sz5 (by simp [D.cells, byteD]) (List.map_take.symm) rfl)) ?_ | refine d_pure [43, 44, 40] [] rfl rfl (fun _ => gp_run rfl rfl rfl (st_sliceO (k) rfl rfl rfl (by rw [List.length_map]; omega) rfl Try.underlying22 sz5 rfl)) ?_ | refine d_pureA [43, 44, 40] rfl rfl (fun _ => gp_run rfl rfl rfl (st_sliceO (k) rfl rfl rfl (by rw [List.length_map]; omega) rfl Try.underlying22 sz5 rfl)) ?_
    first | refine d_pure [45, 40] [] rfl rfl (fun _ => gp_run rfl rfl rfl (st_callP (checksum_p _ _ rfl q1) rfl rfl)) ?_ | refine d_pureA [45, 40] rfl rfl (fun _ => gp_run rfl rfl rfl (st_callP (checksum_p _ _ rfl q1) rfl rfl)) ?_
    first | refine d_pure [1, 40] [] rfl rfl (fun _ => gp_run rfl rfl rfl (st_move rfl rfl)) ?_ | refine d_pureA [1, 40] rfl rfl (fun _ => gp_run rfl rfl rfl (st_move rfl rfl)) ?_
    first | refine d_pure [7, 40] [] rfl rfl (fun _ => gp_run rfl rfl rfl (st_move rfl rfl)) ?_ | refine d_pureA [7, 40] rfl rfl (fun _ => gp_run rfl rfl rfl (st_move rfl rfl)) ?_
    first | refine d_pure [47, 48, 40] [] rfl rfl (fun _ => gp_run rfl rfl rfl (st_sliceHi (k) rfl rfl rfl (by rw [List.length_map]; omega) Try.underlying22 sz5 (by simp [D.cells, byteD]) (List.map_take.symm) rfl)) ?_ | refine d_pureA [47, 48, 40] rfl rfl (fun _ => gp_run rfl rfl rfl (st_sliceHi (k) rfl rfl rfl (by rw [List.length_map]; omega) Try.underlying22 sz5 (by simp [D.cells, byteD]) (List.map_take.symm) rfl)) ?_ | refine d_pure [47, 48, 40] [] rfl rfl (fun _ => gp_run rfl rfl rfl (st_sliceO (k) rfl rfl rfl (by rw [List.length_map]; omega) rfl Try.underlying22 sz5 rfl)) ?_ | refine d_pureA [47, 48, 40] rfl rfl (fun _ => gp_run rfl rfl rfl (st_sliceO (k) rfl rfl rfl (by rw [List.length_map]; omega) rfl Try.underlying22 sz5 rfl)) ?_
    first | refine d_pure [49, 40] [] rfl rfl (fun _ => gp_run rfl rfl rfl (st_callP (checksum_p _ _ rfl q2) rfl rfl)) ?_ | refine d_pureA [49, 40] rfl rfl (fun _ => gp_run rfl rfl rfl (st_callP (checksum_p _ _ rfl q2) rfl rfl)) ?_
    first | refine d_pure [46, 50, 40] [] rfl rfl (fun _ => gp_run rfl rfl rfl (st_bits rfl rfl rfl (u32_xor_nat _ _ x1 x2) rfl)) ?_ | refine d_pureA [46, 50, 40] rfl rfl (fun _ => gp_run rfl rfl rfl (st_bits rfl rfl rfl (u32_xor_nat _ _ x1 x2) rfl)) ?_
    first | refine d_pure [2, 40] [] rfl rfl (fun _ => gp_run rfl rfl rfl (st_move rfl rfl)) ?_ | refine d_pureA [2, 40] rfl rfl (fun _ => gp_run rfl rfl rfl (st_move rfl rfl)) ?_
    first | refine d_pure [7, 40] [] rfl rfl (fun _ => gp_run rfl rfl rfl (st_move rfl rfl)) ?_ | refine d_pureA [7, 40] rfl rfl (fun _ => gp_run rfl rfl rfl (st_move rfl rfl)) ?_
    first | refine d_pure [52, 53, 40] [] rfl rfl (fun _ => gp_run rfl rfl rfl (st_sliceHi (k) rfl rfl rfl (by rw [List.length_map]; omega) Try.underlying22 sz5 (by simp [D.cells, byteD]) (List.map_take.symm) rfl)) ?_ | refine d_pureA [52, 53, 40] rfl rfl (fun _ => gp_run rfl rfl rfl (st_sliceHi (k) rfl rfl rfl (by rw [List.length_map]; omega) Try.underlying22 sz5 (by simp [D.cells, byteD]) (List.map_take.symm) rfl)) ?_ | refine d_pure [52, 53, 40] [] rfl rfl (fun _ => gp_run rfl rfl rfl (st_sliceO (k) rfl rfl rfl (by rw [List.length_map]; omega) rfl Try.underlying22 sz5 rfl)) ?_ | refine d_pureA [52, 53, 40] rfl rfl (fun _ => gp_run rfl rfl rfl (st_sliceO (k) rfl rfl rfl (by rw [List.length_map]; omega) rfl Try.underlying22 sz5 rfl)) ?_
    first | refine d_pure [54, 40] [] rfl rfl (fun _ => gp_run rfl rfl rfl (st_callP (checksum_p _ _ rfl q3) rfl rfl)) ?_ | refine d_pureA [54, 40] rfl rfl (fun _ => gp_run rfl rfl rfl (st_callP (checksum_p _ _ rfl q3) rfl rfl)) ?_
    refine dwc 17 rfl rfl rfl ?_
    refine dw1 18 rfl rfl ?_
    refine o_run rfl rfl rfl ?_
    refine Pstep.go (st_bits rfl rfl rfl (u32_xor_nat _ _ x12 x3) rfl) ?_
    refine o_nil ⟨rfl, ?_⟩
    refine dw1 19 rfl rfl ?_
    refine o_run rfl rfl rfl ?_
    first | refine Pstep.go (st_eql rfl rfl rfl) ?_ | refine Pstep.go (st_eqlS rfl rfl rfl) ?_ | refine Pstep.go (st_eqlB Try.underlying24 rfl rfl rfl) ?_ | refine Pstep.go (st_eqlP rfl rfl rfl) ?_
    refine o_nil ⟨rfl, ?_⟩
    refine dw1 20 rfl rfl ?_
    refine Pstep.go (st_pickT rfl rfl rfl rfl) ?_
    refine o_nil ⟨rfl, ?_⟩
    refine dw1 21 rfl rfl ?_
    refine Pstep.go (st_assign rfl rfl) ?_
    refine o_nil ⟨rfl, ?_⟩
    refine dwe ?_
    refine a_ret ?_
    exact ⟨_, [], [], rfl, rfl, rfl, by rw [decide_eq_true (by rw [xor3_crc _ _ _ (by simp; omega) (by simp; omega)])], rfl⟩
end Go.Proofs.Ytnflcmpdaoobcaa
