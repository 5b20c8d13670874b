/- The plain law behind RecordChecksumAffine. -/
import Derived.Test.YtnflcmpdaoobcaaLaw1
namespace Go.Proofs.Ytnflcmpdaoobcaa
open Go.RowKit

/-- The bitwise sum of three texts. -/
def xor3 : List UInt8 → List UInt8 → List UInt8 → List UInt8
  | a :: la, b :: lb, c :: lc => (a ^^^ b ^^^ c) :: xor3 la lb lc
  | _, _, _ => []
theorem xor3_reg (a b c : List UInt8) (h1 : a.length = b.length) (h2 : a.length = c.length) : ∀ x y z : Nat, crcReg (x ^^^ y ^^^ z) (xor3 a b c) = crcReg x a ^^^ crcReg y b ^^^ crcReg z c := by
  induction a generalizing b c with
  | nil =>
    match b, c, h1, h2 with
    | [], [], _, _ => intro x y z; rfl
  | cons a0 a ih =>
    match b, c, h1, h2 with
    | b0 :: b, c0 :: c, h1, h2 =>
      intro x y z
      have e : (x ^^^ y ^^^ z) ^^^ (a0 ^^^ b0 ^^^ c0).toNat = (x ^^^ a0.toNat) ^^^ (y ^^^ b0.toNat) ^^^ (z ^^^ c0.toNat) := by
        rw [UInt8.toNat_xor, UInt8.toNat_xor]
        ac_rfl
      show crcReg (iter crcBit 8 ((x ^^^ y ^^^ z) ^^^ (a0 ^^^ b0 ^^^ c0).toNat)) (xor3 a b c) = crcReg (iter crcBit 8 (x ^^^ a0.toNat)) a ^^^ crcReg (iter crcBit 8 (y ^^^ b0.toNat)) b ^^^ crcReg (iter crcBit 8 (z ^^^ c0.toNat)) c
      rw [e, iter_xor, iter_xor, ih b c (by simpa using h1) (by simpa using h2)]
theorem xor3_crc (a b c : List UInt8) (h1 : a.length = b.length) (h2 : a.length = c.length) : crc (xor3 a b c) = crc a ^^^ crc b ^^^ crc c := by
  have h := xor3_reg a b c h1 h2 (not32 0) (not32 0) (not32 0)
  have e : not32 0 ^^^ not32 0 ^^^ not32 0 = not32 0 := by rw [Nat.xor_self, Nat.zero_xor]
  rw [e] at h
  unfold crc crcFrom
  rw [h]
  unfold not32
  have e2 : ∀ x y z m : Nat, (x ^^^ m) ^^^ (y ^^^ m) ^^^ (z ^^^ m) = (x ^^^ y ^^^ z) ^^^ m := fun x y z m => by
    have h1 : (x ^^^ m) ^^^ (y ^^^ m) = x ^^^ y := by rw [Nat.xor_assoc, xor_left_comm' m y m, Nat.xor_self, Nat.xor_zero]
    rw [h1, ← Nat.xor_assoc]
  rw [e2]
theorem xor3_length (a b c : List UInt8) (h1 : a.length = b.length) (h2 : a.length = c.length) : (xor3 a b c).length = a.length := by
  induction a generalizing b c with
  | nil => match b, c, h1, h2 with | [], [], _, _ => rfl
  | cons a0 a ih =>
    match b, c, h1, h2 with
    | b0 :: b, c0 :: c, h1, h2 => simp [xor3, ih b c (by simpa using h1) (by simpa using h2)]
theorem xor3_take (a b c : List UInt8) (k : Nat) (ha : k < a.length) (hb : k < b.length) (hc : k < c.length) :
    xor3 (a.take (k + 1)) (b.take (k + 1)) (c.take (k + 1)) = xor3 (a.take k) (b.take k) (c.take k) ++ [a[k] ^^^ b[k] ^^^ c[k]] := by
  induction k generalizing a b c with
  | zero =>
    match a, b, c, ha, hb, hc with
    | a0 :: a, b0 :: b, c0 :: c, _, _, _ => simp [xor3]
  | succ k ih =>
    match a, b, c, ha, hb, hc with
    | a0 :: a, b0 :: b, c0 :: c, ha, hb, hc =>
      simp only [List.take_succ_cons, xor3, List.cons_append, List.cons.injEq, true_and, List.getElem_cons_succ]
      exact ih a b c (by simpa using ha) (by simpa using hb) (by simpa using hc)

end Go.Proofs.Ytnflcmpdaoobcaa
