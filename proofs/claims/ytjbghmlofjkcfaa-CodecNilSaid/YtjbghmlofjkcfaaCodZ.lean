/- The walks of the Reader's methods. -/
import Derived.Test.YtjbghmlofjkcfaaCodY
namespace Go.Proofs.Ytjbghmlofjkcfaa
open Go.RowKit

abbrev stU (b : List UInt8) (s : RSt) := stepR (0 : Nat) (rdU 0 0) b s
abbrev stB (b : List UInt8) (s : RSt) := stepR false decB b s
abbrev stS (b : List UInt8) (s : RSt) := stepR ([] : List UInt8) decS b s
theorem stepR_le {α : Type} {z : α} {dec : List UInt8 → α × Nat × Nat} (hf : Fits dec) {b : List UInt8} {s : RSt} (h : s.1 ≤ b.length) : (stepR z dec b s).2.1 ≤ b.length := by
  have := hf (b.drop s.1)
  rw [List.length_drop] at this
  unfold stepR
  split
  · split
    · dsimp only; omega
    · exact h
  · exact h
theorem newReader_own (b : List UInt8) (hb : b.length ≤ 140737488355328) : ACalls Try.prog 19 [.d (bytesD b)] [] fun r H' => r = .ptr 910 0 0 ∧ H' = [(910, [.blk 65 [.own 911 0 b.length, .d (.raw (.int .i64 0)), .d (.raw (.int .i64 0))]]), (911, [.rowD 5 1 (b.map byteD)])] := by
  have hc := (clone_902 b hb).by [(902, 911)] rfl
  refine a_enter Try.func19 rfl rfl Try.ntmps19 rfl rfl rfl fun F hF => ?_
  refine a_seq ?_
  refine a_region ?_
  refine Pstep.go (st_assign rfl rfl) ?_
  refine o_nil ?_
  refine a_seq ?_
  refine a_region ?_
  refine Pstep.go (st_move rfl rfl) ?_
  refine Estep.go (st_callD hc rfl [911] ⟨rfl, trivial⟩ rfl rfl rfl rfl rfl rfl rfl rfl rfl) ?_
  refine Pstep.go (st_build zl65 pl65 rfl rfl rfl) ?_
  refine Estep.go (st_box 910 rfl rfl rfl rfl rfl rfl rfl) ?_
  refine Pstep.go (st_assign rfl rfl) ?_
  refine o_nil ?_
  refine a_ret ?_
  exact ⟨_, [910, 911], _, res_of rfl, rfl, rfl, rfl, rfl⟩
theorem newReader_p (b : List UInt8) (hb : b.length ≤ 140737488355328) : ACalls Try.prog 19 [.d (bytesD b)] [] fun r H' => r = .ptr 910 0 0 ∧ H' = rH b 0 0 := by
  have hc := (clone_902 b hb).frozen (by simp)
  rw [List.take_of_length_le (by simp)] at hc
  refine a_enter Try.func19 rfl rfl Try.ntmps19 rfl rfl rfl fun F hF => ?_
  refine a_seq ?_
  refine a_region ?_
  refine Pstep.go (st_assign rfl rfl) ?_
  refine o_nil ?_
  refine a_seq ?_
  refine a_region ?_
  refine Pstep.go (st_move rfl rfl) ?_
  refine Pstep.go (st_callP (hc) rfl rfl) ?_
  refine Pstep.go (st_build zl65 pl65 rfl rfl rfl) ?_
  refine Estep.go (st_box 910 rfl rfl rfl rfl rfl rfl rfl) ?_
  refine Pstep.go (st_assign rfl rfl) ?_
  refine o_nil ?_
  refine a_ret ?_
  exact ⟨_, [910], _, res_of rfl, rfl, rfl, rfl, rfl⟩
theorem rUint_910 (b : List UInt8) (s : RSt) (hs : s.1 ≤ b.length) (hb : b.length ≤ 1000000000000) : ACalls Try.prog 20 [.ptr 910 0 0] (rH b s.1 s.2) fun r H' => r = .d (.raw (.int .u64 ((stU b s).1 : Int))) ∧ H' = rH b (stU b s).2.1 (stU b s).2.2 := by
  have hv := valueU 46 (rdU 0 0) b s hs hb rdU_fits (integer_p _ (by rw [List.length_drop]; omega))
  refine a_enter Try.func20 rfl rfl Try.ntmps20 rfl rfl rfl fun F hF => ?_
  refine a_seq ?_
  refine a_region ?_
  refine Pstep.go (st_assign rfl rfl) ?_
  refine o_nil ?_
  refine a_seq ?_
  refine a_region ?_
  refine Pstep.go (st_move rfl rfl) ?_
  refine Estep.go (st_callD hv rfl [910] ⟨rfl, trivial⟩ rfl rfl rfl rfl rfl rfl rfl rfl rfl) ?_
  refine Pstep.go (st_assign rfl rfl) ?_
  refine o_nil ?_
  refine a_ret ?_
  exact ⟨_, [910], _, res_of rfl, rfl, rfl, rfl, rfl⟩
theorem rBool_910 (b : List UInt8) (s : RSt) (hs : s.1 ≤ b.length) (hb : b.length ≤ 1000000000000) : ACalls Try.prog 25 [.ptr 910 0 0] (rH b s.1 s.2) fun r H' => r = .d (.raw (.bool (stB b s).1)) ∧ H' = rH b (stB b s).2.1 (stB b s).2.2 := by
  have hv := valueB 48 decB b s hs hb decB_fits (boolFn_p _ (by rw [List.length_drop]; omega))
  refine a_enter Try.func25 rfl rfl Try.ntmps25 rfl rfl rfl fun F hF => ?_
  refine a_seq ?_
  refine a_region ?_
  refine Pstep.go (st_assign rfl rfl) ?_
  refine o_nil ?_
  refine a_seq ?_
  refine a_region ?_
  refine Pstep.go (st_move rfl rfl) ?_
  refine Estep.go (st_callD hv rfl [910] ⟨rfl, trivial⟩ rfl rfl rfl rfl rfl rfl rfl rfl rfl) ?_
  refine Pstep.go (st_assign rfl rfl) ?_
  refine o_nil ?_
  refine a_ret ?_
  exact ⟨_, [910], _, res_of rfl, rfl, rfl, rfl, rfl⟩
theorem rBlob_910 (b : List UInt8) (s : RSt) (hs : s.1 ≤ b.length) (hb : b.length ≤ 1000000000000) : ACalls Try.prog 27 [.ptr 910 0 0] (rH b s.1 s.2) fun r H' => r = .d (bytesD (stS b s).1) ∧ H' = rH b (stS b s).2.1 (stS b s).2.2 := by
  have hv := valueS 50 decS b s hs hb decS_fits (blobFn_p _ (by rw [List.length_drop]; omega))
  refine a_enter Try.func27 rfl rfl Try.ntmps27 rfl rfl rfl fun F hF => ?_
  refine a_seq ?_
  refine a_region ?_
  refine Pstep.go (st_assign rfl rfl) ?_
  refine o_nil ?_
  refine a_seq ?_
  refine a_region ?_
  refine Pstep.go (st_move rfl rfl) ?_
  refine Estep.go (st_callD hv rfl [910] ⟨rfl, trivial⟩ rfl rfl rfl rfl rfl rfl rfl rfl rfl) ?_
  refine Pstep.go (st_assign rfl rfl) ?_
  refine o_nil ?_
  refine a_ret ?_
  exact ⟨_, [910], _, res_of rfl, rfl, rfl, rfl, rfl⟩
theorem rString_910 (b : List UInt8) (s : RSt) (hs : s.1 ≤ b.length) (hb : b.length ≤ 1000000000000) : ACalls Try.prog 26 [.ptr 910 0 0] (rH b s.1 s.2) fun r H' => r = .d (strD (stS b s).1) ∧ H' = rH b (stS b s).2.1 (stS b s).2.2 := by
  have hv := rBlob_910 b s hs hb
  refine a_enter Try.func26 rfl rfl Try.ntmps26 rfl rfl rfl fun F hF => ?_
  refine a_seq ?_
  refine a_region ?_
  refine Pstep.go (st_assign rfl rfl) ?_
  refine o_nil ?_
  refine a_seq ?_
  refine a_region ?_
  refine Pstep.go (st_move rfl rfl) ?_
  refine Estep.go (st_callD hv rfl [910] ⟨rfl, trivial⟩ rfl rfl rfl rfl rfl rfl rfl rfl rfl) ?_
  refine Pstep.go (st_convBS (stS b s).1 rfl rfl Try.underlying27 Try.underlying5 Try.underlying9 rfl) ?_
  refine Pstep.go (st_assign rfl rfl) ?_
  refine o_nil ?_
  refine a_ret ?_
  exact ⟨_, [910], _, res_of rfl, rfl, rfl, rfl, rfl⟩
theorem takeString_910 (b : List UInt8) (s : RSt) (hs : s.1 ≤ b.length) (hb : b.length ≤ 1000000000000) : ACalls Try.prog 33 [.ptr 910 0 0] (rH b s.1 s.2) fun r H' => r = .d (strD (stS b s).1) ∧ H' = rH b (stS b s).2.1 (stS b s).2.2 := by
  have hv := rString_910 b s hs hb
  refine a_enter Try.func33 rfl rfl Try.ntmps33 rfl rfl rfl fun F hF => ?_
  refine a_seq ?_
  refine a_region ?_
  refine Pstep.go (st_assign rfl rfl) ?_
  refine o_nil ?_
  refine a_seq ?_
  refine a_region ?_
  refine Pstep.go (st_move rfl rfl) ?_
  refine Estep.go (st_callD hv rfl [910] ⟨rfl, trivial⟩ rfl rfl rfl rfl rfl rfl rfl rfl rfl) ?_
  refine Pstep.go (st_assign rfl rfl) ?_
  refine o_nil ?_
  refine a_ret ?_
  exact ⟨_, [910], _, res_of rfl, rfl, rfl, rfl, rfl⟩
/-- The number that a zigzag number stands for. -/
def unzz (u : Nat) : Int := if u % 2 = 0 then ((u / 2 : Nat) : Int) else -((u / 2 : Nat) : Int) - 1
theorem unzz_bits (u : Nat) (hu : u < 18446744073709551616) : bitsOf .xor .i64 (IntKind.i64.wrap ((u : Int).fdiv (2 ^ (min (1 : Int).toNat IntKind.u64.bits)))) (IntKind.i64.wrap (0 - IntKind.i64.wrap (bitsOf .and .u64 (u : Int) 1))) = unzz u := by
  have hx : ∀ (a : Nat), a < 18446744073709551616 → (BitVec.ofInt 64 (a : Int)).toNat = a := fun a ha => by rw [BitVec.toNat_ofInt]; omega
  have s1 : (u : Int).fdiv (2 ^ (min (1 : Int).toNat IntKind.u64.bits)) = ((u / 2 : Nat) : Int) := by
    show (u : Int).fdiv 2 = _
    rw [Int.fdiv_eq_ediv_of_nonneg _ (by omega)]; rfl
  have s2 : bitsOf .and .u64 (u : Int) 1 = ((u % 2 : Nat) : Int) := by
    show IntKind.u64.wrap ((BitVec.ofInt 64 (u : Int) &&& BitVec.ofInt 64 1).toNat : Int) = _
    rw [BitVec.toNat_and, hx _ hu, show (BitVec.ofInt 64 1).toNat = 1 by decide, Nat.and_one_is_mod, wrap64n _ (by omega)]
  rw [s1, s2, wrapS _ (by omega), wrapS _ (by omega)]
  have hi : ∀ x : Int, -9223372036854775808 ≤ x → x ≤ 9223372036854775807 → IntKind.i64.wrap x = x := fun x h1 h2 => IntWalk.i64_in _ (by omega)
  unfold unzz
  split
  · rename_i h
    rw [h]
    show IntKind.i64.wrap ((BitVec.ofInt 64 ((u / 2 : Nat) : Int) ^^^ BitVec.ofInt 64 (IntKind.i64.wrap (0 - ((0 : Nat) : Int)))).toNat : Int) = _
    rw [show IntKind.i64.wrap (0 - ((0 : Nat) : Int)) = 0 by decide, BitVec.toNat_xor, hx _ (by omega), show (BitVec.ofInt 64 0).toNat = 0 by decide, Nat.xor_zero, hi _ (by omega) (by omega)]
  · rename_i h
    have h1 : u % 2 = 1 := by omega
    rw [h1]
    show IntKind.i64.wrap ((BitVec.ofInt 64 ((u / 2 : Nat) : Int) ^^^ BitVec.ofInt 64 (IntKind.i64.wrap (0 - ((1 : Nat) : Int)))).toNat : Int) = _
    rw [show IntKind.i64.wrap (0 - ((1 : Nat) : Int)) = -1 by decide, show BitVec.ofInt 64 (-1) = BitVec.allOnes 64 by decide, BitVec.xor_allOnes, BitVec.toNat_not, hx _ (by omega)]
    have hw : ∀ x : Int, 9223372036854775808 ≤ x → x < 18446744073709551616 → IntKind.i64.wrap x = x - 18446744073709551616 := fun x h1 h2 => by
      simp only [IntKind.wrap, IntKind.bits, IntKind.signed]; simp; omega
    rw [hw _ (by omega) (by omega)]
    omega
theorem stU_lt (b : List UInt8) (s : RSt) : (stU b s).1 < 18446744073709551616 := by
  unfold stU stepR
  split
  · split
    · exact rd_lt _
    · exact (by decide : (0 : Nat) < 18446744073709551616)
  · exact (by decide : (0 : Nat) < 18446744073709551616)
theorem rInt_910 (b : List UInt8) (s : RSt) (hs : s.1 ≤ b.length) (hb : b.length ≤ 1000000000000) : ACalls Try.prog 28 [.ptr 910 0 0] (rH b s.1 s.2) fun r H' => r = .d (.raw (.int .i64 (unzz (stU b s).1))) ∧ H' = rH b (stU b s).2.1 (stU b s).2.2 := by
  have hv := rUint_910 b s hs hb
  refine a_enter Try.func28 rfl rfl Try.ntmps28 rfl rfl rfl fun F hF => ?_
  refine a_seq ?_
  refine a_region ?_
  refine Pstep.go (st_assign rfl rfl) ?_
  refine o_nil ?_
  refine a_seq ?_
  refine a_region ?_
  refine Pstep.go (st_move rfl rfl) ?_
  refine Estep.go (st_callD hv rfl [910] ⟨rfl, trivial⟩ rfl rfl rfl rfl rfl rfl rfl rfl rfl) ?_
  refine Pstep.go (st_assign rfl rfl) ?_
  refine o_nil ?_
  refine a_seq ?_
  refine a_region ?_
  refine Pstep.go (st_move rfl rfl) ?_
  refine Pstep.go (st_shr rfl rfl (by omega) (rfl) rfl) ?_
  refine Pstep.go (st_conv rfl Try.underlying29 Try.underlying2 (rfl) rfl) ?_
  refine Pstep.go (st_move rfl rfl) ?_
  refine Pstep.go (st_bits rfl rfl rfl (rfl) rfl) ?_
  refine Pstep.go (st_conv rfl Try.underlying29 Try.underlying2 (rfl) rfl) ?_
  refine Pstep.go (st_neg rfl (rfl) rfl) ?_
  refine Pstep.go (st_bits rfl rfl rfl (unzz_bits _ (stU_lt b s)) rfl) ?_
  refine Pstep.go (st_assign rfl rfl) ?_
  refine o_nil ?_
  refine a_ret ?_
  exact ⟨_, [910], _, res_of rfl, rfl, rfl, rfl, rfl⟩
theorem rErr_910 (b : List UInt8) (s : RSt) : ACalls Try.prog 22 [.ptr 910 0 0] (rH b s.1 s.2) fun r H' => r = .d (.raw (.int .i64 (s.2 : Int))) ∧ H' = rH b s.1 s.2 := by
  refine a_enter Try.func22 rfl rfl Try.ntmps22 rfl rfl rfl fun F hF => ?_
  refine a_seq ?_
  refine a_region ?_
  refine Pstep.go (st_assign rfl rfl) ?_
  refine o_nil ?_
  refine a_seq ?_
  refine a_seq ?_
  refine a_region ?_
  refine Pstep.go (st_move rfl rfl) ?_
  first | refine Pstep.go (st_eql rfl rfl rfl) ?_ | refine Pstep.go (st_eqlSL rfl rfl rfl) ?_ | refine Pstep.go (st_eqlS rfl rfl rfl) ?_ | refine Pstep.go (st_eqlB Try.underlying39 rfl rfl rfl) ?_ | refine Pstep.go (st_eqlP Try.underlying39 rfl rfl rfl) ?_ | refine Pstep.go (st_eqlN Try.underlying39 rfl rfl) ?_ | refine Pstep.go (st_eqlF Try.underlying39 rfl rfl rfl) ?_ | refine Pstep.go (st_eqlFN Try.underlying39 rfl rfl) ?_
  refine o_nil ?_
  refine a_false rfl (rfl) ?_
  refine a_skip ?_
  refine a_seq ?_
  refine a_region ?_
  refine Pstep.go (st_move rfl rfl) ?_
  first | refine Pstep.go (st_nilCheckP rfl rfl) ?_ | refine Pstep.go (st_nilCheckD rfl rfl) ?_ | refine Pstep.go (st_nilCheckR rfl rfl) ?_
  first | refine Pstep.go (st_fieldP rfl fi65_2 rfl rfl rfl) ?_ | refine Pstep.go (st_fieldF1 rfl fi65_2 rfl rfl rfl) ?_ | refine Pstep.go (st_fieldFS rfl fi65_2 rfl rfl rfl) ?_ | refine Pstep.go (st_fieldR rfl fi65_2 rfl rfl rfl) ?_
  first | refine Pstep.go (st_loadD1 rfl rfl on38 rfl) ?_ | refine Pstep.go (st_loadP rfl rfl rfl on38 rfl) ?_ | refine Pstep.go (st_loadR rfl rfl (rfl) rfl on38 rfl) ?_
  refine Pstep.go (st_assign rfl rfl) ?_
  refine o_nil ?_
  refine a_ret ?_
  exact ⟨_, [910], _, res_of rfl, rfl, rfl, rfl, rfl⟩
theorem rOffset_910 (b : List UInt8) (s : RSt) : ACalls Try.prog 21 [.ptr 910 0 0] (rH b s.1 s.2) fun r H' => r = .d (.raw (.int .i64 (s.1 : Int))) ∧ H' = rH b s.1 s.2 := by
  refine a_enter Try.func21 rfl rfl Try.ntmps21 rfl rfl rfl fun F hF => ?_
  refine a_seq ?_
  refine a_region ?_
  refine Pstep.go (st_assign rfl rfl) ?_
  refine o_nil ?_
  refine a_seq ?_
  refine a_seq ?_
  refine a_region ?_
  refine Pstep.go (st_move rfl rfl) ?_
  first | refine Pstep.go (st_eql rfl rfl rfl) ?_ | refine Pstep.go (st_eqlSL rfl rfl rfl) ?_ | refine Pstep.go (st_eqlS rfl rfl rfl) ?_ | refine Pstep.go (st_eqlB Try.underlying39 rfl rfl rfl) ?_ | refine Pstep.go (st_eqlP Try.underlying39 rfl rfl rfl) ?_ | refine Pstep.go (st_eqlN Try.underlying39 rfl rfl) ?_ | refine Pstep.go (st_eqlF Try.underlying39 rfl rfl rfl) ?_ | refine Pstep.go (st_eqlFN Try.underlying39 rfl rfl) ?_
  refine o_nil ?_
  refine a_false rfl (rfl) ?_
  refine a_skip ?_
  refine a_seq ?_
  refine a_region ?_
  refine Pstep.go (st_move rfl rfl) ?_
  first | refine Pstep.go (st_nilCheckP rfl rfl) ?_ | refine Pstep.go (st_nilCheckD rfl rfl) ?_ | refine Pstep.go (st_nilCheckR rfl rfl) ?_
  first | refine Pstep.go (st_fieldP rfl fi65_1 rfl rfl rfl) ?_ | refine Pstep.go (st_fieldF1 rfl fi65_1 rfl rfl rfl) ?_ | refine Pstep.go (st_fieldFS rfl fi65_1 rfl rfl rfl) ?_ | refine Pstep.go (st_fieldR rfl fi65_1 rfl rfl rfl) ?_
  first | refine Pstep.go (st_loadD1 rfl rfl on3 rfl) ?_ | refine Pstep.go (st_loadP rfl rfl rfl on3 rfl) ?_ | refine Pstep.go (st_loadR rfl rfl (rfl) rfl on3 rfl) ?_
  refine Pstep.go (st_assign rfl rfl) ?_
  refine o_nil ?_
  refine a_ret ?_
  exact ⟨_, [910], _, res_of rfl, rfl, rfl, rfl, rfl⟩
theorem rRest_910 (b : List UInt8) (s : RSt) (hs : s.1 ≤ b.length) (hb : b.length ≤ 1000000000000) : ACalls Try.prog 29 [.ptr 910 0 0] (rH b s.1 s.2) fun r H' => r = .d (.raw (.int .i64 ((b.length : Int) - (s.1 : Int)))) ∧ H' = rH b s.1 s.2 := by
  refine a_enter Try.func29 rfl rfl Try.ntmps29 rfl rfl rfl fun F hF => ?_
  refine a_seq ?_
  refine a_region ?_
  refine Pstep.go (st_assign rfl rfl) ?_
  refine o_nil ?_
  refine a_seq ?_
  refine a_seq ?_
  refine a_region ?_
  refine Pstep.go (st_move rfl rfl) ?_
  first | refine Pstep.go (st_eql rfl rfl rfl) ?_ | refine Pstep.go (st_eqlSL rfl rfl rfl) ?_ | refine Pstep.go (st_eqlS rfl rfl rfl) ?_ | refine Pstep.go (st_eqlB Try.underlying39 rfl rfl rfl) ?_ | refine Pstep.go (st_eqlP Try.underlying39 rfl rfl rfl) ?_ | refine Pstep.go (st_eqlN Try.underlying39 rfl rfl) ?_ | refine Pstep.go (st_eqlF Try.underlying39 rfl rfl rfl) ?_ | refine Pstep.go (st_eqlFN Try.underlying39 rfl rfl) ?_
  refine o_nil ?_
  refine a_false rfl (rfl) ?_
  refine a_skip ?_
  refine a_seq ?_
  refine a_drawn [[], [0], [0, 1], [0, 1, 2], [0, 1, 2, 3], [], [5], [5, 6], [5, 6, 7], [0, 1, 2, 3, 4, 5, 6, 7, 8], [0, 1, 2, 3, 4, 5, 6, 7, 8, 9]] mixed rfl ?_
  refine dws ?_
  first | refine d_pure [0] [] rfl rfl (fun _ => gp_none (st_move rfl rfl)) ?_ | refine d_pureA [0] rfl rfl (fun _ => gp_none (st_move rfl rfl)) ?_
  first | refine d_pure [5] [] rfl rfl (fun _ => gp_none (st_nilCheckP rfl rfl)) ?_ | refine d_pureA [5] rfl rfl (fun _ => gp_none (st_nilCheckP rfl rfl)) ?_ | refine d_pure [5] [] rfl rfl (fun _ => gp_none (st_nilCheckD rfl rfl)) ?_ | refine d_pureA [5] rfl rfl (fun _ => gp_none (st_nilCheckD rfl rfl)) ?_ | refine d_pure [5] [] rfl rfl (fun _ => gp_none (st_nilCheckR rfl rfl)) ?_ | refine d_pureA [5] rfl rfl (fun _ => gp_none (st_nilCheckR rfl rfl)) ?_
  first | refine d_pure [6] [] rfl rfl (fun _ => gp_none (st_fieldP rfl fi65_0 rfl rfl rfl)) ?_ | refine d_pureA [6] rfl rfl (fun _ => gp_none (st_fieldP rfl fi65_0 rfl rfl rfl)) ?_ | refine d_pure [6] [] rfl rfl (fun _ => gp_none (st_fieldF1 rfl fi65_0 rfl rfl rfl)) ?_ | refine d_pureA [6] rfl rfl (fun _ => gp_none (st_fieldF1 rfl fi65_0 rfl rfl rfl)) ?_ | refine d_pure [6] [] rfl rfl (fun _ => gp_none (st_fieldFS rfl fi65_0 rfl rfl rfl)) ?_ | refine d_pureA [6] rfl rfl (fun _ => gp_none (st_fieldFS rfl fi65_0 rfl rfl rfl)) ?_ | refine d_pure [6] [] rfl rfl (fun _ => gp_none (st_fieldR rfl fi65_0 rfl rfl rfl)) ?_ | refine d_pureA [6] rfl rfl (fun _ => gp_none (st_fieldR rfl fi65_0 rfl rfl rfl)) ?_
  first | refine d_pure [7] [] rfl rfl (fun _ => gp_none (st_loadD1 rfl rfl on27 rfl)) ?_ | refine d_pureA [7] rfl rfl (fun _ => gp_none (st_loadD1 rfl rfl on27 rfl)) ?_ | refine d_pure [7] [] rfl rfl (fun _ => gp_none (st_loadP rfl rfl rfl on27 rfl)) ?_ | refine d_pureA [7] rfl rfl (fun _ => gp_none (st_loadP rfl rfl rfl on27 rfl)) ?_ | refine d_pure [7] [] rfl rfl (fun _ => gp_none (st_loadR rfl rfl (rfl) rfl on27 rfl)) ?_ | refine d_pureA [7] rfl rfl (fun _ => gp_none (st_loadR rfl rfl (rfl) rfl on27 rfl)) ?_
  first | refine d_pure [8] [] rfl rfl (fun _ => gp_none (st_lenMap rfl Try.underlying27 rfl)) ?_ | refine d_pureA [8] rfl rfl (fun _ => gp_none (st_lenMap rfl Try.underlying27 rfl)) ?_ | refine d_pure [8] [] rfl rfl (fun _ => gp_none (st_lenD rfl rfl Try.underlying27 rfl)) ?_ | refine d_pureA [8] rfl rfl (fun _ => gp_none (st_lenD rfl rfl Try.underlying27 rfl)) ?_ | refine d_pure [8] [] rfl rfl (fun _ => gp_none (st_lenO rfl Try.underlying27 rfl)) ?_ | refine d_pureA [8] rfl rfl (fun _ => gp_none (st_lenO rfl Try.underlying27 rfl)) ?_ | refine d_pure [8] [] rfl rfl (fun _ => gp_none (st_lenSL rfl Try.underlying27 rfl)) ?_ | refine d_pureA [8] rfl rfl (fun _ => gp_none (st_lenSL rfl Try.underlying27 rfl)) ?_ | refine d_pure [8] [] rfl rfl (fun _ => gp_none (st_lenS rfl Try.underlying27 rfl)) ?_ | refine d_pureA [8] rfl rfl (fun _ => gp_none (st_lenS rfl Try.underlying27 rfl)) ?_
  first | refine d_pure [0] [] rfl rfl (fun _ => gp_none (st_move rfl rfl)) ?_ | refine d_pureA [0] rfl rfl (fun _ => gp_none (st_move rfl rfl)) ?_
  first | refine d_pure [10] [] rfl rfl (fun _ => gp_none (st_nilCheckP rfl rfl)) ?_ | refine d_pureA [10] rfl rfl (fun _ => gp_none (st_nilCheckP rfl rfl)) ?_ | refine d_pure [10] [] rfl rfl (fun _ => gp_none (st_nilCheckD rfl rfl)) ?_ | refine d_pureA [10] rfl rfl (fun _ => gp_none (st_nilCheckD rfl rfl)) ?_ | refine d_pure [10] [] rfl rfl (fun _ => gp_none (st_nilCheckR rfl rfl)) ?_ | refine d_pureA [10] rfl rfl (fun _ => gp_none (st_nilCheckR rfl rfl)) ?_
  first | refine d_pure [11] [] rfl rfl (fun _ => gp_none (st_fieldP rfl fi65_1 rfl rfl rfl)) ?_ | refine d_pureA [11] rfl rfl (fun _ => gp_none (st_fieldP rfl fi65_1 rfl rfl rfl)) ?_ | refine d_pure [11] [] rfl rfl (fun _ => gp_none (st_fieldF1 rfl fi65_1 rfl rfl rfl)) ?_ | refine d_pureA [11] rfl rfl (fun _ => gp_none (st_fieldF1 rfl fi65_1 rfl rfl rfl)) ?_ | refine d_pure [11] [] rfl rfl (fun _ => gp_none (st_fieldFS rfl fi65_1 rfl rfl rfl)) ?_ | refine d_pureA [11] rfl rfl (fun _ => gp_none (st_fieldFS rfl fi65_1 rfl rfl rfl)) ?_ | refine d_pure [11] [] rfl rfl (fun _ => gp_none (st_fieldR rfl fi65_1 rfl rfl rfl)) ?_ | refine d_pureA [11] rfl rfl (fun _ => gp_none (st_fieldR rfl fi65_1 rfl rfl rfl)) ?_
  first | refine d_pure [12] [] rfl rfl (fun _ => gp_none (st_loadD1 rfl rfl on3 rfl)) ?_ | refine d_pureA [12] rfl rfl (fun _ => gp_none (st_loadD1 rfl rfl on3 rfl)) ?_ | refine d_pure [12] [] rfl rfl (fun _ => gp_none (st_loadP rfl rfl rfl on3 rfl)) ?_ | refine d_pureA [12] rfl rfl (fun _ => gp_none (st_loadP rfl rfl rfl on3 rfl)) ?_ | refine d_pure [12] [] rfl rfl (fun _ => gp_none (st_loadR rfl rfl (rfl) rfl on3 rfl)) ?_ | refine d_pureA [12] rfl rfl (fun _ => gp_none (st_loadR rfl rfl (rfl) rfl on3 rfl)) ?_
  refine dwc 9 rfl rfl rfl ?_
  refine dw1 10 rfl rfl ?_
  refine Pstep.go (st_sub rfl rfl (IntWalk.i64_in _ (by omega)) rfl) ?_
  refine o_nil ⟨rfl, ?_⟩
  refine dw1 11 rfl rfl ?_
  refine Pstep.go (st_assign rfl rfl) ?_
  refine o_nil ⟨rfl, ?_⟩
  refine dwe ?_
  refine a_ret ?_
  exact ⟨_, [910], _, res_of rfl, rfl, rfl, rfl, rfl⟩
theorem rFail_910 (b : List UInt8) (s : RSt) (e : Int) : ACalls Try.prog 23 [.ptr 910 0 0, .d (.raw (.int .i64 e))] (rH b s.1 s.2) fun r H' => r = .tup [] ∧ H' = [(910, [.blk 65 [.d (bytesD b), .d (.raw (.int .i64 (s.1 : Int))), .d (.raw (.int .i64 (if s.2 = 0 then e else (s.2 : Int))))]])] := by
  refine a_enter Try.func23 rfl rfl Try.ntmps23 rfl rfl rfl fun F hF => ?_
  refine a_seq ?_
  refine a_region ?_
  refine Pstep.go (st_move rfl rfl) ?_
  first | refine Pstep.go (st_neq rfl rfl rfl) ?_ | refine Pstep.go (st_neqSL rfl rfl rfl) ?_ | refine Pstep.go (st_neqS rfl rfl rfl) ?_ | refine Pstep.go (st_neqB Try.underlying39 rfl rfl rfl) ?_ | refine Pstep.go (st_neqP Try.underlying39 rfl rfl rfl) ?_ | refine Pstep.go (st_neqN Try.underlying39 rfl rfl) ?_ | refine Pstep.go (st_neqF Try.underlying39 rfl rfl rfl) ?_ | refine Pstep.go (st_neqFN Try.underlying39 rfl rfl) ?_
  refine Pstep.go (st_move rfl rfl) ?_
  refine o_setT 6 rfl (rfl) ?_
  refine o_run rfl rfl rfl ?_
  refine Pstep.go (st_move rfl rfl) ?_
  refine o_run rfl rfl rfl ?_
  first | refine Pstep.go (st_nilCheckP rfl rfl) ?_ | refine Pstep.go (st_nilCheckD rfl rfl) ?_ | refine Pstep.go (st_nilCheckR rfl rfl) ?_
  refine o_run rfl rfl rfl ?_
  first | refine Pstep.go (st_fieldP rfl fi65_2 rfl rfl rfl) ?_ | refine Pstep.go (st_fieldF1 rfl fi65_2 rfl rfl rfl) ?_ | refine Pstep.go (st_fieldFS rfl fi65_2 rfl rfl rfl) ?_ | refine Pstep.go (st_fieldR rfl fi65_2 rfl rfl rfl) ?_
  refine o_run rfl rfl rfl ?_
  first | refine Pstep.go (st_loadD1 rfl rfl on38 rfl) ?_ | refine Pstep.go (st_loadP rfl rfl rfl on38 rfl) ?_ | refine Pstep.go (st_loadR rfl rfl (rfl) rfl on38 rfl) ?_
  refine o_run rfl rfl rfl ?_
  first | refine Pstep.go (st_eql rfl rfl rfl) ?_ | refine Pstep.go (st_eqlSL rfl rfl rfl) ?_ | refine Pstep.go (st_eqlS rfl rfl rfl) ?_ | refine Pstep.go (st_eqlB Try.underlying38 rfl rfl rfl) ?_ | refine Pstep.go (st_eqlP Try.underlying38 rfl rfl rfl) ?_ | refine Pstep.go (st_eqlN Try.underlying38 rfl rfl) ?_ | refine Pstep.go (st_eqlF Try.underlying38 rfl rfl rfl) ?_ | refine Pstep.go (st_eqlFN Try.underlying38 rfl rfl) ?_
  refine Pstep.go (st_pickT rfl rfl rfl rfl) ?_
  refine o_nil ?_
  first | refine a_if rfl (fun h12 => ?_) (fun h12 => ?_) | refine a_cond rfl (fun h12 => ?_) (fun h12 => ?_)
  · refine a_region ?_
    refine Pstep.go (st_move rfl rfl) ?_
    refine Pstep.go (st_move rfl rfl) ?_
    first | refine Pstep.go (st_nilCheckP rfl rfl) ?_ | refine Pstep.go (st_nilCheckD rfl rfl) ?_ | refine Pstep.go (st_nilCheckR rfl rfl) ?_
    first | refine Pstep.go (st_fieldP rfl fi65_2 rfl rfl rfl) ?_ | refine Pstep.go (st_fieldF1 rfl fi65_2 rfl rfl rfl) ?_ | refine Pstep.go (st_fieldFS rfl fi65_2 rfl rfl rfl) ?_ | refine Pstep.go (st_fieldR rfl fi65_2 rfl rfl rfl) ?_
    refine Estep.go (st_storeP rfl rfl rfl rfl rfl rfl rfl sz38) ?_
    refine o_nil ?_
    have h1 : s.2 = 0 := by have h := h12; omega
    exact ⟨_, [910], _, res_of rfl, rfl, rfl, rfl, by rw [if_pos h1]⟩
  · refine a_skip ?_
    have h1 : ¬ s.2 = 0 := by have h := h12; omega
    exact ⟨_, [910], _, res_of rfl, rfl, rfl, rfl, by rw [if_neg h1]⟩
theorem rEnd_910 (b : List UInt8) (s : RSt) (hs : s.1 ≤ b.length) (hb : b.length ≤ 1000000000000) : ACalls Try.prog 24 [.ptr 910 0 0] (rH b s.1 s.2) fun r H' => r = .d (.raw (.int .i64 ((if s.2 = 0 then (if s.1 = b.length then 0 else 5) else s.2 : Nat) : Int))) ∧ H' = rH b s.1 s.2 := by
  refine a_enter Try.func24 rfl rfl Try.ntmps24 rfl rfl rfl fun F hF => ?_
  refine a_seq ?_
  refine a_region ?_
  refine Pstep.go (st_assign rfl rfl) ?_
  refine o_nil ?_
  refine a_seq ?_
  refine a_seq ?_
  refine a_region ?_
  refine Pstep.go (st_move rfl rfl) ?_
  refine Estep.go (st_callD (rErr_910 b s) rfl [910] ⟨rfl, trivial⟩ rfl rfl rfl rfl rfl rfl rfl rfl rfl) ?_
  refine Pstep.go (st_assign rfl rfl) ?_
  refine o_nil ?_
  refine a_seq ?_
  refine a_region ?_
  refine Pstep.go (st_move rfl rfl) ?_
  first | refine Pstep.go (st_neq rfl rfl rfl) ?_ | refine Pstep.go (st_neqSL rfl rfl rfl) ?_ | refine Pstep.go (st_neqS rfl rfl rfl) ?_ | refine Pstep.go (st_neqB Try.underlying38 rfl rfl rfl) ?_ | refine Pstep.go (st_neqP Try.underlying38 rfl rfl rfl) ?_ | refine Pstep.go (st_neqN Try.underlying38 rfl rfl) ?_ | refine Pstep.go (st_neqF Try.underlying38 rfl rfl rfl) ?_ | refine Pstep.go (st_neqFN Try.underlying38 rfl rfl) ?_
  refine Pstep.go (st_move rfl rfl) ?_
  first | refine o_splitP 8 rfl (fun h8 => ?_) (fun h8 => ?_) | refine o_splitB 8 rfl (fun h8 => ?_) (fun h8 => ?_)
  · refine o_pass rfl rfl rfl rfl ?_
    refine o_pass rfl rfl rfl rfl ?_
    refine o_pass rfl rfl rfl rfl ?_
    refine Pstep.go (st_pickT rfl rfl rfl rfl) ?_
    refine o_nil ?_
    refine a_true rfl rfl ?_
    refine a_seq ?_
    refine a_region ?_
    refine Pstep.go (st_move rfl rfl) ?_
    refine Pstep.go (st_assign rfl rfl) ?_
    refine o_nil ?_
    refine a_ret ?_
    have h1 : (if s.2 = 0 then (if s.1 = b.length then 0 else 5) else s.2 : Nat) = s.2 := by first | (have h := h8; rw [if_neg (by omega)]) | (have h := h8; have h2 := h12; rw [if_pos (by omega), if_pos (by omega)]; omega)
    exact ⟨_, [910], _, res_of rfl, rfl, rfl, by rw [h1], rfl⟩
  · refine o_run rfl rfl rfl ?_
    refine Pstep.go (st_move rfl rfl) ?_
    refine o_run rfl rfl rfl ?_
    refine Estep.go (st_callD (rRest_910 b s hs hb) rfl [910] ⟨rfl, trivial⟩ rfl rfl rfl rfl rfl rfl rfl rfl rfl) ?_
    refine o_run rfl rfl rfl ?_
    first | refine Pstep.go (st_eql rfl rfl rfl) ?_ | refine Pstep.go (st_eqlSL rfl rfl rfl) ?_ | refine Pstep.go (st_eqlS rfl rfl rfl) ?_ | refine Pstep.go (st_eqlB Try.underlying3 rfl rfl rfl) ?_ | refine Pstep.go (st_eqlP Try.underlying3 rfl rfl rfl) ?_ | refine Pstep.go (st_eqlN Try.underlying3 rfl rfl) ?_ | refine Pstep.go (st_eqlF Try.underlying3 rfl rfl rfl) ?_ | refine Pstep.go (st_eqlFN Try.underlying3 rfl rfl) ?_
    refine Pstep.go (st_pickF rfl rfl rfl rfl) ?_
    refine o_nil ?_
    first | refine a_if rfl (fun h12 => ?_) (fun h12 => ?_) | refine a_cond rfl (fun h12 => ?_) (fun h12 => ?_)
    · refine a_seq ?_
      refine a_region ?_
      refine Pstep.go (st_move rfl rfl) ?_
      refine Pstep.go (st_assign rfl rfl) ?_
      refine o_nil ?_
      refine a_ret ?_
      have h1 : (if s.2 = 0 then (if s.1 = b.length then 0 else 5) else s.2 : Nat) = s.2 := by first | (have h := h8; rw [if_neg (by omega)]) | (have h := h8; have h2 := h12; rw [if_pos (by omega), if_pos (by omega)]; omega)
      exact ⟨_, [910], _, res_of rfl, rfl, rfl, by rw [h1], rfl⟩
    · refine a_skip ?_
      refine a_seq ?_
      refine a_region ?_
      refine Pstep.go (st_assign rfl rfl) ?_
      refine o_nil ?_
      refine a_ret ?_
      have h1 : (if s.2 = 0 then (if s.1 = b.length then 0 else 5) else s.2 : Nat) = 5 := by have h := h8; have h2 := h12; rw [if_pos (by omega), if_neg (by omega)]
      exact ⟨_, [910], _, res_of rfl, rfl, rfl, by rw [h1]; rfl, rfl⟩
end Go.Proofs.Ytjbghmlofjkcfaa
