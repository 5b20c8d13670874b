/- The plain law of scanning: what was encoded is read back; a prefix yields the records that lie whole in it; a changed byte is found. No program in sight. -/
import Derived.Test.YtnflcmpdaoobcaaSames
namespace Go.Proofs.Ytnflcmpdaoobcaa
open Go.RowKit

theorem numL_le4 (n : Nat) (h : n < 4294967296) (r : List UInt8) : numL (le4 n ++ r) = n := by
  simp only [numL, le4, List.cons_append, List.nil_append, List.getElem?_cons_zero, List.getElem?_cons_succ, Option.getD_some, num4, UInt8.toNat_ofNat']
  omega
theorem numL_app (a r : List UInt8) (h : 4 ≤ a.length) : numL (a ++ r) = numL a := by
  unfold numL
  rw [List.getElem?_append_left (by omega), List.getElem?_append_left (by omega), List.getElem?_append_left (by omega), List.getElem?_append_left (by omega)]
theorem numL_take (l : List UInt8) (m : Nat) (h : 4 ≤ m) : numL (l.take m) = numL l := by
  unfold numL
  simp only [List.getElem?_take]
  rw [if_pos (by omega), if_pos (by omega), if_pos (by omega), if_pos (by omega)]

/-- A record at the head is read back. -/
theorem next_enc (p rest : List UInt8) (h : p.length ≤ 1048576) : nextL (encL p ++ rest) = (p, 8 + p.length, 0) := by
  have hc := crc_lt (le4 p.length ++ p)
  have hb : encL p ++ rest = le4 p.length ++ (le4 (crc (le4 p.length ++ p)) ++ (p ++ rest)) := by simp [encL, List.append_assoc]
  have hn : numL (encL p ++ rest) = p.length := by rw [hb]; exact numL_le4 _ (by omega) _
  have hl : (encL p ++ rest).length = 8 + p.length + rest.length := by rw [List.length_append, encL_length]
  have h4 : (encL p ++ rest).take 4 = le4 p.length := by rw [hb]; exact List.take_left' rfl
  have hd4 : (encL p ++ rest).drop 4 = le4 (crc (le4 p.length ++ p)) ++ (p ++ rest) := by rw [hb]; exact List.drop_left' rfl
  have hd8 : (encL p ++ rest).drop 8 = p ++ rest := by
    rw [show (8 : Nat) = 4 + 4 from rfl, ← List.drop_drop, hd4]; exact List.drop_left' rfl
  unfold nextL
  rw [if_neg (by omega), hn, if_neg (by omega), if_neg (by omega), h4, hd8, List.take_left' rfl, hd4, numL_le4 _ hc, if_pos rfl]

/-- A part of a record, and no record whole: the end is missing. -/
theorem next_cut (p rest : List UInt8) (m : Nat) (h : p.length ≤ 1048576) (hm : m < 8 + p.length) : nextL ((encL p ++ rest).take m) = ([], 0, 19) := by
  have hb : encL p ++ rest = le4 p.length ++ (le4 (crc (le4 p.length ++ p)) ++ (p ++ rest)) := by simp [encL, List.append_assoc]
  have hl : (encL p ++ rest).length = 8 + p.length + rest.length := by rw [List.length_append, encL_length]
  unfold nextL
  by_cases h8 : m < 8
  · rw [if_pos (by rw [List.length_take]; omega)]
  · have hn : numL ((encL p ++ rest).take m) = p.length := by rw [numL_take _ _ (by omega), hb]; exact numL_le4 _ (by omega) _
    rw [if_neg (by rw [List.length_take]; omega), hn, if_neg (by omega), if_pos (by rw [List.length_take]; omega)]

theorem scan_fuel (f : Nat) : ∀ b : List UInt8, b.length ≤ f → ∀ g, b.length ≤ g → scanL f b = scanL g b := by
  induction f with
  | zero =>
    intro b hb g _
    have : b = [] := List.eq_nil_of_length_eq_zero (by omega)
    subst this
    cases g <;> simp [scanL]
  | succ f ih =>
    intro b hb g hg
    by_cases h0 : b.length = 0
    · cases g with
      | zero => simp [scanL, h0]
      | succ g => simp [scanL, h0]
    · obtain ⟨g, rfl⟩ : ∃ g', g = g' + 1 := ⟨g - 1, by omega⟩
      rw [scanL, scanL, if_neg h0, if_neg h0]
      by_cases he : (nextL b).2.2 = 0
      · have hs := next_size b he
        rw [if_pos he, if_pos he, ih (b.drop (nextL b).2.1) (by rw [List.length_drop]; omega) g (by rw [List.length_drop]; omega)]
      · rw [if_neg he, if_neg he]
theorem scan_step (p rest : List UInt8) (h : p.length ≤ 1048576) :
    scanL (encL p ++ rest).length (encL p ++ rest) = (p :: (scanL rest.length rest).1, 8 + p.length + (scanL rest.length rest).2.1, (scanL rest.length rest).2.2) := by
  have hl : (encL p ++ rest).length = (8 + p.length + rest.length - 1) + 1 := by rw [List.length_append, encL_length]; omega
  have hd : (encL p ++ rest).drop (8 + p.length) = rest := List.drop_left' (encL_length p)
  have hf := scan_fuel (8 + p.length + rest.length - 1) rest (by omega) rest.length (Nat.le_refl _)
  rw [hl, scanL, if_neg (by omega), next_enc p rest h]
  simp only [if_true, hd, hf]
theorem encAll_cons (p : List UInt8) (ls : List (List UInt8)) : encAll (p :: ls) = encL p ++ encAll ls := by simp [encAll]
/-- Whole records, and what follows them. -/
theorem scan_all (ls : List (List UInt8)) (rest : List UInt8) (h : ∀ l ∈ ls, l.length ≤ 1048576) :
    scanL (encAll ls ++ rest).length (encAll ls ++ rest) = (ls ++ (scanL rest.length rest).1, (encAll ls).length + (scanL rest.length rest).2.1, (scanL rest.length rest).2.2) := by
  induction ls with
  | nil => simp [encAll]
  | cons p ls ih =>
    rw [encAll_cons, List.append_assoc, scan_step p _ (h p (by simp)), ih (fun l hl => h l (by simp [hl])), List.length_append, encL_length]
    simp [Nat.add_assoc]
theorem scan_nil : scanL 0 [] = ([], 0, 0) := rfl
theorem scan_stop (b : List UInt8) (e : Nat) (he : e ≠ 0) (h : nextL b = ([], 0, e)) (hb : 0 < b.length) : scanL b.length b = ([], 0, e) := by
  obtain ⟨f, hf⟩ : ∃ f, b.length = f + 1 := ⟨b.length - 1, by omega⟩
  rw [hf, scanL, if_neg (by omega), h, if_neg he]
theorem encAll_append (a b : List (List UInt8)) : encAll (a ++ b) = encAll a ++ encAll b := by simp [encAll]

/-- How many records lie whole in the first n bytes, and how long they are. -/
def wholeAt (ls : List (List UInt8)) (n k size : Nat) : Prop := k ≤ ls.length ∧ size = (encAll (ls.take k)).length ∧ size ≤ n
theorem whole_zero (ls : List (List UInt8)) (n : Nat) : wholeAt ls n 0 0 := ⟨Nat.zero_le _, by simp [encAll], Nat.zero_le _⟩
theorem whole_step {ls : List (List UInt8)} {n k size : Nat} (h : wholeAt ls n k size) (hk : k < ls.length) (hs : size + 8 + ls[k].length ≤ n) : wholeAt ls n (k + 1) (size + (8 + ls[k].length)) := by
  refine ⟨by omega, ?_, by omega⟩
  rw [List.take_succ_eq_append_getElem hk, encAll_snoc, List.length_append, encL_length, h.2.1]
theorem scan_trunc {ls : List (List UInt8)} {n k size : Nat} (h : wholeAt ls n k size) (hall : ∀ l ∈ ls, l.length ≤ 1048576) (hn : n ≤ (encAll ls).length) (hstop : ∀ hk : k < ls.length, n < size + 8 + ls[k].length) :
    scanL ((encAll ls).take n).length ((encAll ls).take n) = (ls.take k, size, if n = size then 0 else 19) := by
  obtain ⟨hk, hsz, hle⟩ := h
  have hsplit : encAll ls = encAll (ls.take k) ++ encAll (ls.drop k) := by rw [← encAll_append, List.take_append_drop]
  have ht : (encAll ls).take n = encAll (ls.take k) ++ (encAll (ls.drop k)).take (n - size) := by
    rw [hsplit, List.take_append, List.take_of_length_le (by omega), hsz]
  have hall' : ∀ l ∈ ls.take k, l.length ≤ 1048576 := fun l hl => hall l (List.mem_of_mem_take hl)
  rw [ht, scan_all _ _ hall', ← hsz]
  by_cases he : n = size
  · have : (encAll (ls.drop k)).take (n - size) = [] := by rw [show n - size = 0 by omega]; rfl
    rw [this, if_pos he]
    simp [scan_nil]
  · have hkl : k < ls.length := by
      rcases Nat.lt_or_ge k ls.length with h | h
      · exact h
      · have hlen : (encAll ls).length = size := by rw [hsz, List.take_of_length_le h]
        omega
    have hd : ls.drop k = ls[k] :: ls.drop (k + 1) := List.drop_eq_getElem_cons hkl
    have hst := hstop hkl
    have hnx := next_cut ls[k] (encAll (ls.drop (k + 1))) (n - size) (hall _ (List.getElem_mem hkl)) (by omega)
    rw [← encAll_cons, ← hd] at hnx
    have hlen : 0 < ((encAll (ls.drop k)).take (n - size)).length := by
      have h1 : (encAll ls).length = size + (encAll (ls.drop k)).length := by rw [hsplit, List.length_append, hsz]
      rw [List.length_take]; omega
    rw [scan_stop _ 19 (by decide) hnx hlen, if_neg he]
    simp

end Go.Proofs.Ytnflcmpdaoobcaa
