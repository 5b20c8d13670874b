/- The plain law of a changed byte: a record in which one byte of the checksum or of the payload is another is refused by its checksum. No program in sight. -/
import Derived.Test.YtnflcmpdaoobcaaScanLaw
namespace Go.Proofs.Ytnflcmpdaoobcaa
open Go.RowKit

theorem crcBit_inj {x y : Nat} (hx : x < 4294967296) (hy : y < 4294967296) (h : crcBit x = crcBit y) : x = y := by
  have hd : crcBit (x ^^^ y) = 0 := by rw [crcBit_xor, h, Nat.xor_self]
  have hlt : x ^^^ y < 4294967296 := Nat.xor_lt_two_pow (n := 32) hx hy
  have hz : x ^^^ y = 0 := by
    rcases Nat.mod_two_eq_zero_or_one (x ^^^ y) with hm | hm
    · rw [crcBit_even hm] at hd; omega
    · rw [crcBit_odd hm] at hd
      have h1 : (x ^^^ y) / 2 = 2197175160 := by
        have := congrArg (· ^^^ 2197175160) hd
        simpa [Nat.xor_assoc] using this
      omega
  have := congrArg (· ^^^ y) hz
  simpa [Nat.xor_assoc] using this
theorem iter_inj (n : Nat) {x y : Nat} (hx : x < 4294967296) (hy : y < 4294967296) (h : iter crcBit n x = iter crcBit n y) : x = y := by
  induction n generalizing x y with
  | zero => exact h
  | succ n ih => exact crcBit_inj hx hy (ih (crcBit_lt hx) (crcBit_lt hy) h)
theorem xor_inj {a b c : Nat} (h : a ^^^ c = b ^^^ c) : a = b := by
  have := congrArg (· ^^^ c) h
  simpa [Nat.xor_assoc] using this
theorem crcReg_inj (l : List UInt8) {x y : Nat} (hx : x < 4294967296) (hy : y < 4294967296) (h : crcReg x l = crcReg y l) : x = y := by
  induction l generalizing x y with
  | nil => exact h
  | cons c l ih =>
    have hc := byte_lt c
    have hx' : x ^^^ c.toNat < 4294967296 := Nat.xor_lt_two_pow (n := 32) hx (by omega)
    have hy' : y ^^^ c.toNat < 4294967296 := Nat.xor_lt_two_pow (n := 32) hy (by omega)
    exact xor_inj (iter_inj 8 hx' hy' (ih (iter_lt 8 hx') (iter_lt 8 hy') h))
theorem crcReg_cons (x : Nat) (c : UInt8) (l : List UInt8) : crcReg x (c :: l) = crcReg (iter crcBit 8 (x ^^^ c.toNat)) l := rfl
/-- One byte another: the checksum another. -/
theorem crc_byte (a b : List UInt8) (c d : UInt8) (h : c ≠ d) : crc (a ++ c :: b) ≠ crc (a ++ d :: b) := by
  intro he
  have h1 : crcReg (not32 0) (a ++ c :: b) = crcReg (not32 0) (a ++ d :: b) := xor_inj he
  rw [crcReg_append, crcReg_append, crcReg_cons, crcReg_cons] at h1
  have hr : crcReg (not32 0) a < 4294967296 := crcReg_lt a (not32_lt (by decide))
  have hc := byte_lt c; have hd := byte_lt d
  have hxc : crcReg (not32 0) a ^^^ c.toNat < 4294967296 := Nat.xor_lt_two_pow (n := 32) hr (by omega)
  have hxd : crcReg (not32 0) a ^^^ d.toNat < 4294967296 := Nat.xor_lt_two_pow (n := 32) hr (by omega)
  have h2 := iter_inj 8 hxc hxd (crcReg_inj b (iter_lt 8 hxc) (iter_lt 8 hxd) h1)
  rw [Nat.xor_comm, Nat.xor_comm (crcReg (not32 0) a)] at h2
  exact h (UInt8.toNat_inj.1 (xor_inj h2))

/-- Four bytes and their number. -/
theorem numL_inj4 {a b : List UInt8} (ha : a.length = 4) (hb : b.length = 4) (h : numL a = numL b) : a = b := by
  match a, ha, b, hb with
  | [a0, a1, a2, a3], _, [b0, b1, b2, b3], _ =>
    simp only [numL, List.getElem?_cons_zero, List.getElem?_cons_succ, Option.getD_some, num4] at h
    have x0 := byte_lt a0; have x1 := byte_lt a1; have x2 := byte_lt a2; have x3 := byte_lt a3
    have y0 := byte_lt b0; have y1 := byte_lt b1; have y2 := byte_lt b2; have y3 := byte_lt b3
    have e0 : a0.toNat = b0.toNat := by omega
    have e1 : a1.toNat = b1.toNat := by omega
    have e2 : a2.toNat = b2.toNat := by omega
    have e3 : a3.toNat = b3.toNat := by omega
    rw [UInt8.toNat_inj.1 e0, UInt8.toNat_inj.1 e1, UInt8.toNat_inj.1 e2, UInt8.toNat_inj.1 e3]

/-- A record's header with a checksum and a payload that do not fit. -/
theorem next_bad (s p rest : List UInt8) (hs : s.length = 4) (h : p.length ≤ 1048576) (hne : crc (le4 p.length ++ p) ≠ numL s) : nextL (le4 p.length ++ (s ++ (p ++ rest))) = ([], 0, 18) := by
  have hn : numL (le4 p.length ++ (s ++ (p ++ rest))) = p.length := numL_le4 _ (by omega) _
  have hl : (le4 p.length ++ (s ++ (p ++ rest))).length = 8 + p.length + rest.length := by simp [le4_length, hs]; omega
  have h4 : (le4 p.length ++ (s ++ (p ++ rest))).take 4 = le4 p.length := List.take_left' rfl
  have hd4 : (le4 p.length ++ (s ++ (p ++ rest))).drop 4 = s ++ (p ++ rest) := List.drop_left' rfl
  have hd8 : (le4 p.length ++ (s ++ (p ++ rest))).drop 8 = p ++ rest := by
    rw [show (8 : Nat) = 4 + 4 from rfl, ← List.drop_drop, hd4]; exact List.drop_left' hs
  unfold nextL
  rw [if_neg (by omega), hn, if_neg (by omega), if_neg (by omega), h4, hd8, List.take_left' rfl, hd4, numL_app _ _ (by omega), if_neg hne]

theorem set_split (l : List UInt8) (j : Nat) (hj : j < l.length) (x : UInt8) : l = l.take j ++ l[j] :: l.drop (j + 1) ∧ l.set j x = l.take j ++ x :: l.drop (j + 1) := by
  refine ⟨by rw [List.getElem_cons_drop, List.take_append_drop], List.set_eq_take_append_cons_drop .. |>.trans (by rw [if_pos hj])⟩

/-- One byte of a record's checksum or payload is another. -/
theorem next_corrupt (p rest : List UInt8) (j : Nat) (x : UInt8) (h : p.length ≤ 1048576) (hj : j < 4 + p.length) (hx : (encL p ++ rest)[4 + j]? ≠ some x) : nextL ((encL p ++ rest).set (4 + j) x) = ([], 0, 18) := by
  have hcl := crc_lt (le4 p.length ++ p)
  have hb : encL p ++ rest = le4 p.length ++ (le4 (crc (le4 p.length ++ p)) ++ (p ++ rest)) := by simp [encL, List.append_assoc]
  rw [hb] at hx ⊢
  obtain ⟨s, hs⟩ := gen (le4 (crc (le4 p.length ++ p)))
  have hs4 : s.length = 4 := by rw [hs]; rfl
  have hsn : numL s = crc (le4 p.length ++ p) := by rw [hs, ← numL_app _ [] (by rw [le4_length]; omega)]; exact numL_le4 _ hcl []
  rw [← hs] at hx ⊢
  rw [List.set_append_right _ _ (by rw [le4_length]; omega), le4_length, Nat.add_sub_cancel_left]
  rw [List.getElem?_append_right (by rw [le4_length]; omega), le4_length, Nat.add_sub_cancel_left] at hx
  by_cases hj4 : j < 4
  · rw [List.set_append_left _ _ (by omega)]
    rw [List.getElem?_append_left (by omega)] at hx
    refine next_bad _ p rest (by simp [hs4]) h fun he => hx ?_
    have hq := numL_inj4 (a := s.set j x) (b := s) (by simp [hs4]) hs4 (by rw [hsn, he])
    have : (s.set j x)[j]? = some x := by simp [hs4, hj4]
    rw [hq] at this; exact this
  · rw [List.set_append_right _ _ (by omega), hs4]
    rw [List.getElem?_append_right (by omega), hs4, List.getElem?_append_left (by omega)] at hx
    rw [List.set_append_left _ _ (by omega)]
    obtain ⟨i, hi⟩ := gen (j - 4)
    rw [← hi] at hx ⊢
    have hil : i < p.length := by omega
    rw [List.getElem?_eq_getElem hil] at hx
    obtain ⟨e1, e2⟩ := set_split p i hil x
    have hlen : (p.set i x).length = p.length := by simp
    have hbad := next_bad s (p.set i x) rest hs4 (by rw [hlen]; exact h) (by
      rw [hlen, hsn, e2]
      conv => rhs; rw [e1]
      intro he
      rw [← List.append_assoc, ← List.append_assoc] at he
      exact crc_byte (le4 p.length ++ p.take i) (p.drop (i + 1)) x p[i] (fun e => hx (by rw [e])) (by simpa [← e1, List.append_assoc] using he))
    rw [hlen] at hbad
    exact hbad

theorem scan_corrupt (ls : List (List UInt8)) (k j : Nat) (x : UInt8) (hall : ∀ l ∈ ls, l.length ≤ 1048576) (hk : k < ls.length) (hj : j < 4 + ls[k].length)
    (hx : (encAll ls)[(encAll (ls.take k)).length + (4 + j)]? ≠ some x) :
    scanL ((encAll ls).set ((encAll (ls.take k)).length + (4 + j)) x).length ((encAll ls).set ((encAll (ls.take k)).length + (4 + j)) x) = (ls.take k, (encAll (ls.take k)).length, 18) := by
  have hd : ls.drop k = ls[k] :: ls.drop (k + 1) := List.drop_eq_getElem_cons hk
  have hsplit : encAll ls = encAll (ls.take k) ++ (encL ls[k] ++ encAll (ls.drop (k + 1))) := by rw [← encAll_cons, ← hd, ← encAll_append, List.take_append_drop]
  rw [hsplit] at hx ⊢
  rw [List.set_append_right _ _ (by omega), Nat.add_sub_cancel_left]
  rw [List.getElem?_append_right (by omega), Nat.add_sub_cancel_left] at hx
  have hn := next_corrupt ls[k] (encAll (ls.drop (k + 1))) j x (hall _ (List.getElem_mem hk)) hj hx
  rw [scan_all _ _ (fun l hl => hall l (List.mem_of_mem_take hl)), scan_stop _ 18 (by decide) hn (by rw [List.length_set, List.length_append, encL_length]; omega)]
  simp

end Go.Proofs.Ytnflcmpdaoobcaa
