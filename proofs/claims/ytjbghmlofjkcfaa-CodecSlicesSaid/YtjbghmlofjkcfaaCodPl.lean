/- Plain laws on encodings: what is written is read; what is read was written so; what is cut off is seen. No program in sight. -/
import Derived.Test.YtjbghmlofjkcfaaLawC1
namespace Go.Proofs.Ytjbghmlofjkcfaa
open Go.RowKit

/-! Reading without an error so far. -/
def decL : Nat → List UInt8 → List (List UInt8) × Nat × Nat
  | 0, _ => ([], 0, 0)
  | n + 1, t => if (decS t).2.2 = 0 then (if (decL n (t.drop (decS t).2.1)).2.2 = 0 then ((decS t).1 :: (decL n (t.drop (decS t).2.1)).1, (decS t).2.1 + (decL n (t.drop (decS t).2.1)).2.1, 0)
    else ([], (decS t).2.1 + (decL n (t.drop (decS t).2.1)).2.1, (decL n (t.drop (decS t).2.1)).2.2)) else ([], 0, (decS t).2.2)
def decV (mx k : Int) (t : List UInt8) : CV × Nat × Nat :=
  if k = 0 then (⟨0, (rdU 0 0 t).1, 0, false, [], []⟩, (rdU 0 0 t).2)
  else if k = 1 then (⟨1, 0, unzz (rdU 0 0 t).1, false, [], []⟩, (rdU 0 0 t).2)
  else if k = 2 then (⟨2, 0, 0, (decB t).1, [], []⟩, (decB t).2)
  else if k = 3 then (⟨3, 0, 0, false, (decS t).1, []⟩, (decS t).2)
  else if (decN mx true t).2.2 = 0 then (⟨4, 0, 0, false, [], (decL (decN mx true t).1 (t.drop (decN mx true t).2.1)).1⟩, (decN mx true t).2.1 + (decL (decN mx true t).1 (t.drop (decN mx true t).2.1)).2.1, (decL (decN mx true t).1 (t.drop (decN mx true t).2.1)).2.2)
  else (⟨4, 0, 0, false, [], []⟩, 0, (decN mx true t).2.2)
def Clean {α : Type} (z : α) (dec : List UInt8 → α × Nat × Nat) : Prop := ∀ b, ¬ (dec b).2.2 = 0 → dec b = (z, 0, (dec b).2.2)
theorem rdU_err (b : List UInt8) : ∀ i x, ¬ (rdU i x b).2.2 = 0 → rdU i x b = (0, 0, (rdU i x b).2.2) := by
  induction b with
  | nil => intro i x _; rfl
  | cons c r ih =>
    intro i x
    simp only [rdU]
    split
    · intro _; rfl
    · split
      · exact ih _ _
      · split
        · intro _; rfl
        · intro h; exact absurd rfl h
theorem rdU_clean : Clean 0 (rdU 0 0) := fun b => rdU_err b 0 0
theorem decB_clean : Clean false decB := fun b => by
  cases b with
  | nil => intro _; rfl
  | cons c r =>
    simp only [decB]
    split
    · intro _; rfl
    · intro h; exact absurd rfl h
theorem decS_clean : Clean [] decS := fun b => by
  unfold decS
  split
  · split
    · intro _; rfl
    · split
      · intro _; rfl
      · intro h; exact absurd rfl h
  · intro _; rfl
theorem decN_clean (mx : Int) (fn : Bool) : Clean 0 (decN mx fn) := fun b => by
  unfold decN
  split
  · split
    · intro _; rfl
    · split
      · intro h; exact absurd rfl h
      · intro _; rfl
  · intro _; rfl
theorem stepR_clean {α : Type} {z : α} {dec : List UInt8 → α × Nat × Nat} (hc : Clean z dec) (b : List UInt8) (a : Nat) : stepR z dec b (a, 0) = ((dec (b.drop a)).1, (a + (dec (b.drop a)).2.1, (dec (b.drop a)).2.2)) := by
  by_cases h : (dec (b.drop a)).2.2 = 0
  · rw [stepR_ok rfl h]; dsimp only; rw [h]
  · rw [stepR_no rfl h]
    have := hc _ h
    dsimp only
    rw [show (dec (b.drop a)).1 = z by rw [this], show (dec (b.drop a)).2.1 = 0 by rw [this]]; rfl
theorem rdList_dec (b : List UInt8) : ∀ n acc a, rdList b n acc (a, 0) = (if (decL n (b.drop a)).2.2 = 0 then (acc ++ (decL n (b.drop a)).1) else [], (a + (decL n (b.drop a)).2.1, (decL n (b.drop a)).2.2))
  | 0, acc, a => by simp [rdList, decL]
  | n + 1, acc, a => by
    have hst : stS b (a, 0) = ((decS (b.drop a)).1, (a + (decS (b.drop a)).2.1, (decS (b.drop a)).2.2)) := stepR_clean decS_clean b a
    rw [rdList, hst]
    dsimp only
    by_cases h : (decS (b.drop a)).2.2 = 0
    · rw [if_pos h, h, rdList_dec b n, decL, if_pos h, ← List.drop_drop]
      by_cases h2 : (decL n ((b.drop a).drop (decS (b.drop a)).2.1)).2.2 = 0
      · rw [if_pos h2]; simp only [if_pos h2, if_pos]; rw [h2]; simp [Nat.add_assoc]
      · rw [if_neg h2]; simp only [if_neg h2, Nat.add_assoc]
    · rw [if_neg h, decL, if_neg h]
      have hcl := decS_clean _ h
      dsimp only
      rw [if_neg h, show (decS (b.drop a)).2.1 = 0 by rw [hcl]]
theorem takeV_dec (mx : Int) (b : List UInt8) (k : Int) (a : Nat) : takeV mx b k (a, 0) = ((decV mx k (b.drop a)).1, (a + (decV mx k (b.drop a)).2.1, (decV mx k (b.drop a)).2.2)) := by
  have h1 : stU b (a, 0) = _ := stepR_clean rdU_clean b a
  have h2 : stB b (a, 0) = _ := stepR_clean decB_clean b a
  have h3 : stS b (a, 0) = _ := stepR_clean decS_clean b a
  have h4 : stN mx true b (a, 0) = _ := stepR_clean (decN_clean mx true) b a
  unfold takeV decV
  by_cases e0 : k = 0
  · simp only [if_pos e0]; rw [h1]
  · by_cases e1 : k = 1
    · simp only [if_neg e0, if_pos e1]; rw [h1]
    · by_cases e2 : k = 2
      · simp only [if_neg e0, if_neg e1, if_pos e2]; rw [h2]
      · by_cases e3 : k = 3
        · simp only [if_neg e0, if_neg e1, if_neg e2, if_pos e3]; rw [h3]
        · simp only [if_neg e0, if_neg e1, if_neg e2, if_neg e3]
          unfold rdSlice
          rw [h4]
          dsimp only
          by_cases h : (decN mx true (b.drop a)).2.2 = 0
          · rw [if_pos h, h, rdList_dec, List.drop_drop]
            dsimp only
            by_cases g : (decL (decN mx true (b.drop a)).1 (b.drop (a + (decN mx true (b.drop a)).2.1))).2.2 = 0
            · rw [if_pos g, List.nil_append, Nat.add_assoc]
            · rw [if_neg g, Nat.add_assoc]
              congr 2
              have hd : ∀ n t, ¬ (decL n t).2.2 = 0 → (decL n t).1 = [] := by
                intro n
                induction n with
                | zero => intro t h; exact absurd rfl h
                | succ n ih =>
                  intro t h
                  rw [decL] at h ⊢
                  split
                  · split
                    · rename_i q1 q2; rw [if_pos q1, if_pos q2] at h; exact absurd rfl h
                    · rfl
                  · rfl
              rw [hd _ _ g]
          · rw [if_neg h]
            have hcl := decN_clean mx true _ h
            rw [show (decN mx true (b.drop a)).1 = 0 by rw [hcl], show (decN mx true (b.drop a)).2.1 = 0 by rw [hcl]]
            rfl
def zeroV (k : Int) : CV := ⟨if k = 0 ∨ k = 1 ∨ k = 2 ∨ k = 3 then k else 4, 0, 0, false, [], []⟩
theorem takeV_err (mx : Int) (b : List UInt8) (k : Int) (s : RSt) (h : ¬ s.2 = 0) : takeV mx b k s = (zeroV k, s) := by
  have h1 : stU b s = _ := stepR_bad h
  have h2 : stB b s = _ := stepR_bad h
  have h3 : stS b s = _ := stepR_bad h
  have h4 : stN mx true b s = _ := stepR_bad h
  unfold takeV zeroV
  by_cases e0 : k = 0
  · simp only [if_pos e0]; rw [h1, if_pos (.inl e0), e0]
  · by_cases e1 : k = 1
    · simp only [if_neg e0, if_pos e1]; rw [h1, if_pos (.inr (.inl e1)), e1]; show ((⟨1, 0, unzz 0, false, [], []⟩ : CV), s) = _; rw [show unzz 0 = 0 by decide]
    · by_cases e2 : k = 2
      · simp only [if_neg e0, if_neg e1, if_pos e2]; rw [h2, if_pos (.inr (.inr (.inl e2))), e2]
      · by_cases e3 : k = 3
        · simp only [if_neg e0, if_neg e1, if_neg e2, if_pos e3]; rw [h3, if_pos (.inr (.inr (.inr e3))), e3]
        · simp only [if_neg e0, if_neg e1, if_neg e2, if_neg e3]
          unfold rdSlice
          rw [h4, if_neg (by omega)]
          rfl

/-! What is written is read. -/
theorem ofNat_lt {n : Nat} (h : n < 256) : (UInt8.ofNat n).toNat = n := by simp; omega
theorem rdU_uv (n : Nat) : ∀ (i x : Nat) (r : List UInt8), i ≤ 9 → x < 128 ^ i → n * 128 ^ i + x < 18446744073709551616 → (0 < i → 0 < n) → rdU i x (uv n ++ r) = (x + n * 128 ^ i, i + (uv n).length, 0) := by
  induction n using Nat.strongRecOn with
  | _ n ih =>
    intro i x r hi hx hs hpos
    have h9 : (128 : Nat) ^ 9 = 9223372036854775808 := by decide
    by_cases hn : n < 128
    · rw [uv_lt hn]
      simp only [List.cons_append, List.nil_append, rdU, ofNat_lt (show n < 256 by omega)]
      rw [if_neg (by rintro ⟨rfl, h⟩; rw [h9] at hs; omega), if_neg (by omega), if_neg (by rintro ⟨h1, h2⟩; have := hpos h2; omega), Nat.mod_eq_of_lt hn]
      rfl
    · rw [uv_ge hn]
      have hi9 : i < 9 := by
        rcases Nat.lt_or_ge i 9 with h | h
        · exact h
        · exfalso
          obtain rfl : i = 9 := by omega
          rw [h9] at hs; omega
      have e1 : n = n / 128 * 128 + n % 128 := by omega
      have e2 : n * 128 ^ i = n / 128 * 128 ^ (i + 1) + n % 128 * 128 ^ i := by
        rw [Nat.pow_succ, ← Nat.mul_assoc, Nat.mul_right_comm, ← Nat.add_mul, ← e1]
      have h3 : n % 128 * 128 ^ i + 128 ^ i ≤ 128 * 128 ^ i := by
        have := Nat.mul_le_mul_right (128 ^ i) (show n % 128 + 1 ≤ 128 by omega)
        rwa [Nat.add_mul, Nat.one_mul] at this
      simp only [List.cons_append, rdU, ofNat_lt (show n % 128 + 128 < 256 by omega)]
      rw [if_neg (by omega), if_pos (by omega), show (n % 128 + 128) % 128 = n % 128 by omega, ih (n / 128) (by omega) (i + 1) _ r (by omega) (by rw [Nat.pow_succ]; omega) (by omega) (fun _ => by omega)]
      rw [e2, List.length_cons]
      refine Prod.ext ?_ (Prod.ext ?_ rfl)
      · show x + n % 128 * 128 ^ i + n / 128 * 128 ^ (i + 1) = x + (n / 128 * 128 ^ (i + 1) + n % 128 * 128 ^ i); omega
      · show i + 1 + (uv (n / 128)).length = i + ((uv (n / 128)).length + 1); omega
theorem rd_uv (n : Nat) (r : List UInt8) (h : n < 18446744073709551616) : rdU 0 0 (uv n ++ r) = (n, (uv n).length, 0) := by
  rw [rdU_uv n 0 0 r (by omega) (by decide) (by omega) (by omega)]; simp
theorem decS_enc (s r : List UInt8) (h : s.length ≤ 1048576) : decS (encS s ++ r) = (s, (encS s).length, 0) := by
  have h1 := rd_uv s.length (s ++ r) (by omega)
  unfold decS encS
  rw [List.append_assoc, h1]
  dsimp only
  rw [if_pos rfl, if_neg (by omega), if_neg (by simp)]
  rw [List.drop_left, List.take_left, List.length_append]
theorem decL_enc (l : List (List UInt8)) (r : List UInt8) (h : ∀ x ∈ l, x.length ≤ 1048576) : decL l.length (encL l ++ r) = (l, (encL l).length, 0) := by
  induction l with
  | nil => rfl
  | cons x t ih =>
    have h1 := decS_enc x (encL t ++ r) (h x (List.mem_cons_self ..))
    have h2 := ih fun y hy => h y (List.mem_cons_of_mem _ hy)
    rw [List.length_cons, decL, encL, List.append_assoc, h1]
    dsimp only
    rw [if_pos rfl, List.drop_left, h2]
    dsimp only
    rw [if_pos rfl, List.length_append]
theorem decN_enc (n : Nat) (r : List UInt8) (h : n ≤ 1048576) (mx : Int) (hm : (n : Int) ≤ mx) : decN mx true (uv n ++ r) = (n, (uv n).length, 0) := by
  unfold decN
  rw [rd_uv n r (by omega)]
  dsimp only
  rw [if_pos rfl, if_neg (by omega), if_pos rfl]
theorem unzz_zz (z : Int) : unzz (zz z) = z := by
  unfold zz unzz
  split <;> split <;> omega
theorem zz_unzz (u : Nat) : zz (unzz u) = u := by
  unfold zz unzz
  split <;> split <;> omega
structure VSm (v : CV) : Prop where
  u : v.u < 18446744073709551616
  i1 : -9223372036854775808 ≤ v.i
  i2 : v.i ≤ 9223372036854775807
  s : v.s.length ≤ 4000
  l : v.l.length ≤ 4000
  e : ∀ x ∈ v.l, x.length ≤ 4000
theorem VIn.sm {v : CV} (h : VIn v) (hs : vsz v ≤ 4000) : VSm v :=
  ⟨h.u, h.i1, h.i2, by unfold vsz at hs; omega, by unfold vsz at hs; omega, fun x hx => by have := sumL_mem hx; unfold vsz at hs; omega⟩
def kindOf (v : CV) : Int := if v.k < 0 ∨ 4 < v.k then 4 else v.k
/-- The five kinds. -/
theorem kinds (v : CV) : (kindOf v = 0 ∧ v.k = 0) ∨ (kindOf v = 1 ∧ v.k = 1) ∨ (kindOf v = 2 ∧ v.k = 2) ∨ (kindOf v = 3 ∧ v.k = 3) ∨ (kindOf v = 4 ∧ ¬ v.k = 0 ∧ ¬ v.k = 1 ∧ ¬ v.k = 2 ∧ ¬ v.k = 3) := by
  unfold kindOf; split <;> omega
theorem pure0 {v : CV} (h : v.k = 0) : pureC v = ⟨0, v.u, 0, false, [], []⟩ := by unfold pureC; rw [if_pos h]
theorem pure1 {v : CV} (h : v.k = 1) : pureC v = ⟨1, 0, v.i, false, [], []⟩ := by unfold pureC; rw [if_neg (by omega), if_pos h]
theorem pure2 {v : CV} (h : v.k = 2) : pureC v = ⟨2, 0, 0, v.b, [], []⟩ := by unfold pureC; rw [if_neg (by omega), if_neg (by omega), if_pos h]
theorem pure3 {v : CV} (h : v.k = 3) : pureC v = ⟨3, 0, 0, false, v.s, []⟩ := by unfold pureC; rw [if_neg (by omega), if_neg (by omega), if_neg (by omega), if_pos h]
theorem pure4 {v : CV} (h0 : ¬ v.k = 0) (h1 : ¬ v.k = 1) (h2 : ¬ v.k = 2) (h3 : ¬ v.k = 3) : pureC v = ⟨4, 0, 0, false, [], v.l⟩ := by unfold pureC; rw [if_neg h0, if_neg h1, if_neg h2, if_neg h3]
theorem encP0 {v : CV} (h : v.k = 0) : enc (pureC v) = uv v.u := by rw [pure0 h, enc0 rfl]
theorem encP1 {v : CV} (h : v.k = 1) : enc (pureC v) = uv (zz v.i) := by rw [pure1 h, enc1 rfl]
theorem encP2 {v : CV} (h : v.k = 2) : enc (pureC v) = [if v.b then 1 else 0] := by rw [pure2 h, enc2 rfl]
theorem encP3 {v : CV} (h : v.k = 3) : enc (pureC v) = encS v.s := by rw [pure3 h, enc3 rfl]
theorem encP4 {v : CV} (h0 : ¬ v.k = 0) (h1 : ¬ v.k = 1) (h2 : ¬ v.k = 2) (h3 : ¬ v.k = 3) : enc (pureC v) = uv v.l.length ++ encL v.l := by rw [pure4 h0 h1 h2 h3, enc4 (show ¬ (4 : Int) = 0 by decide) (show ¬ (4 : Int) = 1 by decide) (show ¬ (4 : Int) = 2 by decide) (show ¬ (4 : Int) = 3 by decide)]
theorem decV_enc {v : CV} (hv : VSm v) (r : List UInt8) (mx : Int) (hm : 4000 ≤ mx) : decV mx (kindOf v) (enc (pureC v) ++ r) = (pureC v, (enc (pureC v)).length, 0) := by
  have h1 := hv.u; have h2 := hv.i1; have h3 := hv.i2; have h4 := hv.s; have h5 := hv.l
  rcases kinds v with ⟨e, h⟩ | ⟨e, h⟩ | ⟨e, h⟩ | ⟨e, h⟩ | ⟨e, k0, k1, k2, k3⟩
  · rw [e, encP0 h, pure0 h]; unfold decV
    rw [if_pos rfl, rd_uv _ _ h1]
  · rw [e, encP1 h, pure1 h]; unfold decV
    rw [if_neg (by decide), if_pos rfl, rd_uv _ _ (zz_lt h2 h3), unzz_zz]
  · rw [e, encP2 h, pure2 h]; unfold decV
    rw [if_neg (by decide), if_neg (by decide), if_pos rfl]
    cases v.b <;> rfl
  · rw [e, encP3 h, pure3 h]; unfold decV
    rw [if_neg (by decide), if_neg (by decide), if_neg (by decide), if_pos rfl, decS_enc _ _ (by omega)]
  · rw [e, encP4 k0 k1 k2 k3, pure4 k0 k1 k2 k3]; unfold decV
    rw [if_neg (by decide), if_neg (by decide), if_neg (by decide), if_neg (by decide), List.append_assoc, decN_enc _ _ (by omega) mx (by omega)]
    dsimp only
    rw [if_pos rfl, List.drop_left, decL_enc _ _ (fun x hx => by have := hv.e x hx; omega)]
    rw [List.length_append]
end Go.Proofs.Ytjbghmlofjkcfaa
