/- The walks of Checksum, word, number, read, Clone and Same. -/
import Derived.Test.YtnflcmpdaoobcaaTab
namespace Go.Proofs.Ytnflcmpdaoobcaa
open Go.RowKit

set_option maxHeartbeats 400000 in
theorem checksum_any (l : List UInt8) (A : Option Addr) (c B : Nat) (w : World) (hB : B ≤ w.heap.size) (hr : Reads w B 1 A l.length (l.map bv)) (hn : l.length ≤ 140737488355328) :
    Calls Try.prog 13 #[.slice A l.length c] w fun e w' => e = .returned (.int .u32 (crc l : Nat)) ∧ Below w.heap.size w w' := by
  have HR := Box.mk hr; clear hr
  go_enter Try.func13, Try.ntmps13
  go_wp2_with fail
  refine (extend_any 0 (by omega) l A c B _ hB HR.out hn).mono ?_
  rintro e w1 ⟨rfl, hb⟩
  have Hb := Box.mk hb; clear hb
  go_wp2
  go_ret
  exact ⟨rfl, Hb.out⟩

/-- The four bytes of a number, the lowest first. -/
def le4 (n : Nat) : List UInt8 := [UInt8.ofNat n, UInt8.ofNat (n / 256), UInt8.ofNat (n / 65536), UInt8.ofNat (n / 16777216)]
theorem le4_cells (n : Nat) (h : n < 4294967296) : (le4 n).map bv = [.int .u8 ((n : Int) % 256), .int .u8 ((n : Int) / 256 % 256), .int .u8 ((n : Int) / 65536 % 256), .int .u8 ((n : Int) / 16777216)] := by
  simp only [le4, List.map_cons, List.map_nil, bv, UInt8.toNat_ofNat']
  have h4 : n / 16777216 % 2 ^ 8 = n / 16777216 := Nat.mod_eq_of_lt (by omega)
  rw [h4]
  rfl

set_option maxHeartbeats 400000 in
theorem word_any (n : Nat) (h : n < 4294967296) (w : World) :
    Calls Try.prog 30 #[.int .u32 n] w fun e w' => ∃ v, e = .returned v ∧ Own1 w' w.heap.size 5 v ((le4 n).map bv) ∧ Below w.heap.size w w' := by
  go_enter Try.func30, Try.ntmps30
  go_wp2
  go_ret
  rw [le4_cells n h]
  exact ⟨_, rfl, Own1.new w 5 #[_, _, _, _] (by simp [maxLen]), (Below.refl _ _).alloc (Nat.le_refl _) _⟩

set_option maxHeartbeats 400000 in
theorem refword_any (n : Nat) (h : n < 4294967296) (w : World) :
    Calls Try.prog 31 #[.int .u32 n] w fun e w' => ∃ v, e = .returned v ∧ Own1 w' w.heap.size 5 v ((le4 n).map bv) ∧ Below w.heap.size w w' := by
  go_enter Try.func31, Try.ntmps31
  go_wp2
  go_ret
  rw [le4_cells n h]
  exact ⟨_, rfl, Own1.new w 5 #[_, _, _, _] (by simp [maxLen]), (Below.refl _ _).alloc (Nat.le_refl _) _⟩

end Go.Proofs.Ytnflcmpdaoobcaa
