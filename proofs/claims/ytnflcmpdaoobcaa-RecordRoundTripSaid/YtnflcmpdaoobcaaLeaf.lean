/- The walks of the leaves of layer 9: bitwise step, Sum, table, Extend, Checksum, word, number, read, Clone, Same. -/
import Derived.Test.YtnflcmpdaoobcaaRows
import Derived.Test.YtnflcmpdaoobcaaBase
import Derived.Test.YtnflcmpdaoobcaaCrc
namespace Go.Proofs.Ytnflcmpdaoobcaa
open Go.RowKit

theorem bytesTy : SlTy Try.prog 22 5 1 1 := ⟨by kernel_rfl, ⟨_, _, rfl, rfl, rfl, rfl, rfl⟩, by omega, by omega⟩

theorem and1_u32 (y : Nat) (h : y < 4294967296) : bits .and .u32 (y : Int) 1 = ((y % 2 : Nat) : Int) := by
  have h1 := u32_and_nat y 1 h (by omega)
  rw [nat_mask1] at h1
  exact h1
theorem poly_u32 (y : Nat) (h : y < 4294967296) : bits .xor .u32 ((y : Int) / 2) 2197175160 = (((y / 2) ^^^ 2197175160 : Nat) : Int) :=
  u32_xor_nat (y / 2) 2197175160 (by omega) (by omega)

set_option maxHeartbeats 400000 in
theorem step_any (a b : Nat) (ha : a < 4294967296) (hb : b < 256) (w : World) :
    Calls Try.prog 28 #[.int .u32 a, .int .u8 b] w fun e w' => e = .returned (.int .u32 (iter crcBit 8 (a ^^^ b) : Nat)) ∧ w = w' := by
  have hx : a ^^^ b < 4294967296 := Nat.xor_lt_two_pow (n := 32) (by omega) (by omega)
  have h0 := u32_xor_nat a b ha (by omega)
  go_enter Try.func28, Try.ntmps28
  go_wp2
  clear h0
  generalize hxx : a ^^^ b = x at *
  have Hx' := Box.mk hxx; clear hxx
  go_loop [0, 5] (fun r i => ∃ k : Nat, k ≤ 8 ∧ i = .int .i64 k ∧ r = .int .u32 (iter crcBit k x : Nat)) (fun _ i => 8 - (intOf i).toNat)
  case atStart => exact ⟨0, by omega, rfl, rfl⟩
  case round =>
    obtain ⟨k, hk, rfl, rfl⟩ := hrel
    have hy : iter crcBit k x < 4294967296 := iter_lt k hx
    have hs := Box.mk (iter_succ crcBit k x)
    generalize hyy : iter crcBit k x = y at *
    have Hy := Box.mk hyy; clear hyy
    by_cases hlt : k < 8
    · have h1 := and1_u32 y hy
      have h2 := poly_u32 y hy
      rcases Nat.mod_two_eq_zero_or_one y with hp | hp
      · have hp' : ((y % 2 : Nat) : Int) = 0 := by omega
        rw [hp'] at h1
        have Hp := Box.mk (crcBit_even hp); clear hp hp'
        go_wp2
        go_round
        case rel => exact ⟨k + 1, by omega, by go_num, by rw [hs.out, Hp.out]; rfl⟩
        case measure => simp [intOf]; omega
      · have hp' : ((y % 2 : Nat) : Int) = 1 := by omega
        rw [hp'] at h1
        have Hp := Box.mk (crcBit_odd hp); clear hp hp'
        go_wp2
        go_round
        case rel => exact ⟨k + 1, by omega, by go_num, by rw [hs.out, Hp.out]⟩
        case measure => simp [intOf]; omega
    · obtain rfl : k = 8 := by omega
      go_wp2
      go_ret
      exact ⟨ret_int (by rw [Hx'.out, Hy.out]), rfl⟩

theorem take_snoc {α : Type} (l : List α) (k : Nat) (h : k < l.length) : l.take (k + 1) = l.take k ++ [l[k]] := List.take_succ_eq_append_getElem h

set_option maxHeartbeats 400000 in
theorem sum_any (l : List UInt8) (A : Option Addr) (c B : Nat) (w : World) (hr : Reads w B 1 A l.length (l.map bv)) (hn : l.length ≤ 140737488355328) :
    Calls Try.prog 14 #[.slice A l.length c] w fun e w' => e = .returned (.int .u32 (crc l : Nat)) ∧ w = w' := by
  have HR := Box.mk hr; clear hr
  go_enter Try.func14, Try.ntmps14
  go_wp2
  go_loop [3, 4] (fun r i => ∃ k : Nat, k ≤ l.length ∧ i = .int .i64 k ∧ r = .int .u32 (crcReg 4294967295 (l.take k) : Nat)) (fun _ i => l.length - (intOf i).toNat)
  case atStart => exact ⟨0, by omega, rfl, rfl⟩
  case round =>
    obtain ⟨k, hk, rfl, rfl⟩ := hrel
    have hy : crcReg 4294967295 (l.take k) < 4294967296 := crcReg_lt _ (by omega)
    by_cases hlt : k < l.length
    · have hs := crcReg_snoc 4294967295 (l.take k) l[k]
      rw [← take_snoc l k hlt] at hs
      have Hs := Box.mk hs; clear hs
      generalize crcReg 4294967295 (l.take k) = y at *
      obtain ⟨b, off, rfl, _, hc⟩ := HR.out.byte hlt
      have hc' := byte_lt l[k]
      generalize l[k].toNat = z at *
      go_wp2_with fail
      refine (step_any y z hy hc' _).mono ?_
      rintro e w' ⟨rfl, rfl⟩
      go_wp2
      go_round
      case rel => exact ⟨k + 1, by omega, by go_num, by rw [Hs.out]⟩
      case measure => simp [intOf]; omega
    · obtain rfl : k = l.length := by omega
      have Hy : Hid (crc l = crcReg 4294967295 (l.take l.length) ^^^ 4294967295) := by rw [List.take_length]; rfl
      generalize crcReg 4294967295 (l.take l.length) = y at *
      have h0 : bits .xor .u32 (y : Int) 4294967295 = ((y ^^^ 4294967295 : Nat) : Int) := u32_xor_nat y 4294967295 hy (by omega)
      go_wp2
      go_ret
      exact ⟨ret_int (by rw [Hy.out]), rfl⟩

end Go.Proofs.Ytnflcmpdaoobcaa
