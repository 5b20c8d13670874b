/- The walk of the laws' own known. -/
import Derived.Test.YtnflcmpdaoobcaaSames
namespace Go.Proofs.Ytnflcmpdaoobcaa
open Go.RowKit

theorem checksum_numx (l : List UInt8) (n x : Nat) (hln : l.length = n) (hx : crc l = x) (A : Option Addr) (c B : Nat) (w : World) (hB : B ≤ w.heap.size) (hr : Reads w B 1 A n (l.map bv)) (hn : n ≤ 140737488355328) :
    Calls Try.prog 13 #[.slice A n c] w fun e w' => e = .returned (.int .u32 (x : Nat)) ∧ Below w.heap.size w w' := checksum_num l n x hln hx A c B w hB hr hn

theorem same_len (x : Bool) (l m : List UInt8) (n k : Nat) (hn : l.length = n) (hk : m.length = k) (hx : (l == m) = x) (A A' : Option Addr) (c c' B : Nat) (w : World) (hr : Reads w B 1 A n (l.map bv)) (hr' : Reads w B 1 A' k (m.map bv)) :
    Calls Try.prog 18 #[.slice A n c, .slice A' k c'] w fun e w' => e = .returned (.bool x) ∧ w = w' := by
  subst hn hk
  exact same_num x l m hx A A' c c' B w hr hr'

theorem known_crc : crc [49, 50, 51, 52, 53, 54, 55, 56, 57] = 3808858755 := by decide +kernel
theorem known_nil : crc [] = 0 := by decide +kernel
theorem known_enc : encL [] = [0, 0, 0, 0, 199, 75, 103, 72] := by decide +kernel

set_option maxHeartbeats 1000000 in
theorem known_any (w : World) : Calls Try.prog 12 #[] w fun e w' => e = .returned (.bool true) ∧ Below w.heap.size w w' := by
  have kc := fun (w : World) (C : Array Value) (n c : Nat) => Lib.run_convert_bytes_const (P := Try.prog) w 22 5 C n c Try.underlying22 Try.underlying5
  go_enter Try.func12, Try.ntmps12
  go_wp2_with fail
  refine (encode_num [] 0 rfl none 0 w.heap.size w (Nat.le_refl _) Reads.none_ (by omega)).mono ?_
  rintro e w1 ⟨v1, rfl, hown, hb⟩
  rw [known_enc] at hown
  have Hown1 := Box.mk hown; have Hb1 := Box.mk hb; clear hown hb
  obtain ⟨A1, c1, e1, _, hr1⟩ := Hown1.out.form (n := 8) rfl
  subst e1
  have Hr1 := Box.mk hr1; clear hr1
  go_wp2_with fail
  have hnb := Reads.new_block w1 #[.int .u8 49, .int .u8 50, .int .u8 51, .int .u8 52, .int .u8 53, .int .u8 54, .int .u8 55, .int .u8 56, .int .u8 57] 5 (9, 10) (n := 9) rfl
  refine (checksum_numx [49, 50, 51, 52, 53, 54, 55, 56, 57] 9 3808858755 rfl known_crc _ 9 _ _ (Nat.le_refl _) hnb (by omega)).mono ?_
  clear hnb kc
  rintro e w2 ⟨rfl, hb⟩
  have hs2 : w1.heap.size + 1 ≤ w2.heap.size := by have := hb.size; simpa using this
  have Hb2 := Box.mk (Hb1.out.trans (((Below.refl w.heap.size w1).alloc Hb1.out.size _).trans (hb.mono (by have := Hb1.out.size; simp; omega))))
  have Hr2 := Box.mk ((Hr1.out.alloc (Nat.le_refl _) _).below (hb.mono (by simp)))
  clear hb
  go_wp2_with fail
  refine (checksum_numx [] 0 0 rfl known_nil none 0 w2.heap.size w2 (Nat.le_refl _) Reads.none_ (by omega)).mono ?_
  rintro e w3 ⟨rfl, hb⟩
  have Hb3 := Box.mk (Hb2.out.trans (hb.mono Hb2.out.size))
  have Hr3 := Box.mk (Hr2.out.below (hb.mono (by omega)))
  have hs3 : w1.heap.size ≤ w3.heap.size := by have := hb.size; omega
  clear hb hs2
  go_wp2_with fail
  have hnb := Reads.new_block w3 #[.int .u8 0, .int .u8 0, .int .u8 0, .int .u8 0, .int .u8 199, .int .u8 75, .int .u8 103, .int .u8 72] 5 (0, 0) (n := 8) rfl
  refine (same_len true [0, 0, 0, 0, 199, 75, 103, 72] [0, 0, 0, 0, 199, 75, 103, 72] 8 8 rfl rfl rfl A1 _ c1 8 _ _ ((Hr3.out.alloc hs3 _).more (by simp; omega)) hnb).mono ?_
  clear hnb
  rintro e w' ⟨rfl, rfl⟩
  go_wp2
  go_ret
  exact ⟨rfl, Hb3.out.alloc Hb3.out.size _⟩

end Go.Proofs.Ytnflcmpdaoobcaa
