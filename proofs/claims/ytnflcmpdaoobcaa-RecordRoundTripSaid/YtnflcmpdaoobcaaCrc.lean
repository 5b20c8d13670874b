/- The plain law of the CRC-32C: the table-driven step is the bitwise one; the checksum is affine. No program in sight. -/
import Derived.Test.YtnflcmpdaoobcaaBase
namespace Go.Proofs.Ytnflcmpdaoobcaa
open Go.RowKit

def crcBit (x : Nat) : Nat := if x % 2 = 1 then (x / 2) ^^^ 2197175160 else x / 2

def iter (f : Nat → Nat) : Nat → Nat → Nat
  | 0, x => x
  | n+1, x => iter f n (f x)

theorem iter_succ (f : Nat → Nat) (n x : Nat) : iter f (n+1) x = f (iter f n x) := by
  induction n generalizing x with
  | zero => rfl
  | succ n ih => rw [iter, ih]; rfl

theorem crcBit_lt {x : Nat} (h : x < 4294967296) : crcBit x < 4294967296 := by
  unfold crcBit
  split
  · exact Nat.xor_lt_two_pow (n := 32) (by omega) (by decide)
  · omega
theorem iter_lt {x : Nat} (n : Nat) (h : x < 4294967296) : iter crcBit n x < 4294967296 := by
  induction n generalizing x with
  | zero => exact h
  | succ n ih => exact ih (crcBit_lt h)
theorem crcBit_odd {x : Nat} (h : x % 2 = 1) : crcBit x = (x / 2) ^^^ 2197175160 := by unfold crcBit; rw [if_pos h]
theorem crcBit_even {x : Nat} (h : x % 2 = 0) : crcBit x = x / 2 := by unfold crcBit; rw [if_neg (by omega)]

theorem xor_mod2 (x y : Nat) : (x ^^^ y) % 2 = (x % 2 + y % 2) % 2 := by
  have h := Nat.testBit_xor x y 0
  simp only [Nat.testBit_zero] at h
  rcases Nat.mod_two_eq_zero_or_one x with hx | hx <;> rcases Nat.mod_two_eq_zero_or_one y with hy | hy <;>
    rcases Nat.mod_two_eq_zero_or_one (x ^^^ y) with hz | hz <;> simp [hx, hy, hz] at h ⊢
theorem xor_div2 (x y : Nat) : (x ^^^ y) / 2 = (x / 2) ^^^ (y / 2) := Nat.xor_div_two
theorem xor_left_comm' (a b c : Nat) : a ^^^ (b ^^^ c) = b ^^^ (a ^^^ c) := by
  rw [← Nat.xor_assoc, Nat.xor_comm a b, Nat.xor_assoc]
theorem xor_cancel (a b : Nat) : a ^^^ (a ^^^ b) = b := by rw [← Nat.xor_assoc, Nat.xor_self, Nat.zero_xor]

theorem crcBit_xor (x y : Nat) : crcBit (x ^^^ y) = crcBit x ^^^ crcBit y := by
  have hm := xor_mod2 x y
  rcases Nat.mod_two_eq_zero_or_one x with hx | hx <;> rcases Nat.mod_two_eq_zero_or_one y with hy | hy
  · rw [crcBit_even (by omega), crcBit_even hx, crcBit_even hy, xor_div2]
  · rw [crcBit_odd (by omega), crcBit_even hx, crcBit_odd hy, xor_div2, Nat.xor_assoc]
  · rw [crcBit_odd (by omega), crcBit_odd hx, crcBit_even hy, xor_div2, Nat.xor_assoc, Nat.xor_assoc, Nat.xor_comm (y / 2)]
  · rw [crcBit_even (by omega), crcBit_odd hx, crcBit_odd hy, xor_div2, Nat.xor_assoc, xor_left_comm' 2197175160, Nat.xor_self, Nat.xor_zero]
theorem iter_xor (n x y : Nat) : iter crcBit n (x ^^^ y) = iter crcBit n x ^^^ iter crcBit n y := by
  induction n generalizing x y with
  | zero => rfl
  | succ n ih => rw [iter, iter, iter, crcBit_xor, ih]
theorem iter_shift (n x : Nat) : iter crcBit n (x * 2 ^ n) = x := by
  induction n generalizing x with
  | zero => simp [iter]
  | succ n ih =>
    have h : x * 2 ^ (n + 1) = 2 * (x * 2 ^ n) := by rw [Nat.pow_succ, ← Nat.mul_assoc, Nat.mul_comm]
    rw [iter, crcBit_even (by omega), h, Nat.mul_div_cancel_left _ (by omega), ih]
theorem split8 (x : Nat) : x = (x / 256 * 256) ^^^ (x % 256) := by
  have h := Nat.shiftLeft_add_eq_or_of_lt (a := x / 256) (i := 8) (b := x % 256) (by omega)
  apply Nat.eq_of_testBit_eq
  intro i
  have h1 := Nat.testBit_mul_two_pow (x / 256) 8 i
  rw [Nat.testBit_xor, show (256 : Nat) = 2 ^ 8 from rfl, Nat.testBit_mul_two_pow, Nat.testBit_mod_two_pow, Nat.testBit_div_two_pow]
  by_cases hi : i < 8
  · simp [hi, Nat.not_le.2 hi]
  · simp [hi, Nat.le_of_not_lt hi, Nat.sub_add_cancel (Nat.le_of_not_lt hi)]
/-- One step by the table: eight bitwise steps. -/
theorem table_step (x c : Nat) : (x / 256) ^^^ iter crcBit 8 (x % 256 ^^^ c) = iter crcBit 8 (x ^^^ c) := by
  have h : x ^^^ c = (x / 256 * 2 ^ 8) ^^^ (x % 256 ^^^ c) := by
    rw [← Nat.xor_assoc]; exact congrArg (· ^^^ c) (split8 x)
  rw [h, iter_xor 8 (x / 256 * 2 ^ 8), iter_shift]

/-- The register behind a list of bytes. -/
def crcReg (x : Nat) (l : List UInt8) : Nat := l.foldl (fun x c => iter crcBit 8 (x ^^^ c.toNat)) x
theorem crcReg_lt {x : Nat} (l : List UInt8) (h : x < 4294967296) : crcReg x l < 4294967296 := by
  unfold crcReg
  induction l generalizing x with
  | nil => exact h
  | cons c l ih => exact ih (iter_lt 8 (Nat.xor_lt_two_pow (n := 32) h (by have := c.toNat_lt; omega)))
theorem crcReg_append (x : Nat) (l m : List UInt8) : crcReg x (l ++ m) = crcReg (crcReg x l) m := by
  unfold crcReg; rw [List.foldl_append]
theorem crcReg_snoc (x : Nat) (l : List UInt8) (c : UInt8) : crcReg x (l ++ [c]) = iter crcBit 8 (crcReg x l ^^^ c.toNat) := by
  rw [crcReg_append]; rfl
/-- All bits turned. -/
def not32 (x : Nat) : Nat := x ^^^ 4294967295
theorem not32_not32 (x : Nat) : not32 (not32 x) = x := by
  unfold not32; rw [Nat.xor_assoc, Nat.xor_self, Nat.xor_zero]
theorem not32_lt {x : Nat} (h : x < 4294967296) : not32 x < 4294967296 := Nat.xor_lt_two_pow (n := 32) h (by decide)
/-- The CRC-32C of a text with the checksum s followed by l. -/
def crcFrom (s : Nat) (l : List UInt8) : Nat := not32 (crcReg (not32 s) l)
def crc (l : List UInt8) : Nat := crcFrom 0 l
theorem crcFrom_lt {s : Nat} (l : List UInt8) (h : s < 4294967296) : crcFrom s l < 4294967296 := not32_lt (crcReg_lt l (not32_lt h))
theorem crc_lt (l : List UInt8) : crc l < 4294967296 := crcFrom_lt l (by decide)
theorem crcFrom_crc (a b : List UInt8) : crcFrom (crc a) b = crc (a ++ b) := by
  unfold crc crcFrom; rw [not32_not32, crcReg_append]

end Go.Proofs.Ytnflcmpdaoobcaa
