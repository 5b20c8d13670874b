/- Plain laws: what is cut off is seen; what is read was written so. No program in sight. -/
import Derived.Test.YtjbghmlofjkcfaaCodPl
namespace Go.Proofs.Ytjbghmlofjkcfaa
open Go.RowKit

/-! What is cut off. -/
theorem rdU_cut (n : Nat) : ∀ (i x m : Nat), i ≤ 9 → x < 128 ^ i → n * 128 ^ i + x < 18446744073709551616 → m < (uv n).length → rdU i x ((uv n).take m) = (0, 0, 19) := by
  induction n using Nat.strongRecOn with
  | _ n ih =>
    intro i x m hi hx hs hm
    have h9 : (128 : Nat) ^ 9 = 9223372036854775808 := by decide
    cases m with
    | zero => rfl
    | succ m =>
      by_cases hn : n < 128
      · rw [uv_lt hn] at hm; simp at hm
      · rw [uv_ge hn] at hm ⊢
        have hi9 : i < 9 := by
          rcases Nat.lt_or_ge i 9 with h | h
          · exact h
          · exfalso
            obtain rfl : i = 9 := by omega
            rw [h9] at hs; omega
        have e1 : n = n / 128 * 128 + n % 128 := by omega
        have e2 : n * 128 ^ i = n / 128 * 128 ^ (i + 1) + n % 128 * 128 ^ i := by
          rw [Nat.pow_succ, ← Nat.mul_assoc, Nat.mul_right_comm, ← Nat.add_mul, ← e1]
        have h3 : n % 128 * 128 ^ i + 128 ^ i ≤ 128 * 128 ^ i := by
          have := Nat.mul_le_mul_right (128 ^ i) (show n % 128 + 1 ≤ 128 by omega)
          rwa [Nat.add_mul, Nat.one_mul] at this
        rw [List.take_succ_cons]
        simp only [rdU, ofNat_lt (show n % 128 + 128 < 256 by omega)]
        rw [if_neg (by omega), if_pos (by omega), show (n % 128 + 128) % 128 = n % 128 by omega]
        exact ih (n / 128) (by omega) (i + 1) _ m (by omega) (by rw [Nat.pow_succ]; omega) (by omega) (by simpa using hm)
theorem rd_cut (n m : Nat) (h : n < 18446744073709551616) (hm : m < (uv n).length) : rdU 0 0 ((uv n).take m) = (0, 0, 19) := rdU_cut n 0 0 m (by omega) (by decide) (by omega) hm
theorem decS_cut (s : List UInt8) (m : Nat) (h : s.length ≤ 1048576) (hm : m < (encS s).length) : (decS ((encS s).take m)).2.2 = 19 := by
  unfold encS at hm ⊢
  rw [List.length_append] at hm
  rcases Nat.lt_or_ge m (uv s.length).length with h1 | h1
  · rw [List.take_append_of_le_length (by omega)]
    unfold decS
    rw [rd_cut _ _ (by omega) h1]
    rfl
  · obtain ⟨j, rfl⟩ : ∃ j, m = (uv s.length).length + j := ⟨m - (uv s.length).length, by omega⟩
    rw [List.take_length_add_append]
    unfold decS
    rw [rd_uv _ _ (by omega)]
    dsimp only
    rw [if_pos rfl, if_neg (by omega), if_pos (by rw [List.length_append, List.length_take]; omega)]
theorem decL_cut (l : List (List UInt8)) : ∀ m, (∀ x ∈ l, x.length ≤ 1048576) → m < (encL l).length → (decL l.length ((encL l).take m)).2.2 = 19 := by
  induction l with
  | nil => intro m _ hm; simp [encL] at hm
  | cons x t ih =>
    intro m hx hm
    have hx0 := hx x (List.mem_cons_self ..)
    rw [List.length_cons, decL]
    rw [encL, List.length_append] at hm
    rw [encL]
    rcases Nat.lt_or_ge m (encS x).length with h1 | h1
    · rw [List.take_append_of_le_length (by omega)]
      have h2 := decS_cut x m hx0 h1
      rw [if_neg (by rw [h2]; decide)]
      exact h2
    · obtain ⟨j, rfl⟩ : ∃ j, m = (encS x).length + j := ⟨m - (encS x).length, by omega⟩
      rw [List.take_length_add_append, decS_enc x _ hx0]
      dsimp only
      rw [if_pos rfl, List.drop_left]
      have h2 := ih j (fun y hy => hx y (List.mem_cons_of_mem _ hy)) (by omega)
      rw [if_neg (by rw [h2]; decide)]
      exact h2
theorem decV_cut {v : CV} (hv : VSm v) (m : Nat) (hm : m < (enc (pureC v)).length) (mx : Int) (hmx : 4000 ≤ mx) : (decV mx (kindOf v) ((enc (pureC v)).take m)).2.2 = 19 := by
  have h1 := hv.u; have h2 := hv.i1; have h3 := hv.i2; have h4 := hv.s; have h5 := hv.l
  rcases kinds v with ⟨e, h⟩ | ⟨e, h⟩ | ⟨e, h⟩ | ⟨e, h⟩ | ⟨e, k0, k1, k2, k3⟩
  · rw [encP0 h] at hm ⊢; rw [e]; unfold decV
    rw [if_pos rfl, rd_cut _ _ h1 hm]
  · rw [encP1 h] at hm ⊢; rw [e]; unfold decV
    rw [if_neg (by decide), if_pos rfl, rd_cut _ _ (zz_lt h2 h3) hm]
  · rw [encP2 h] at hm ⊢; rw [e]; unfold decV
    rw [if_neg (by decide), if_neg (by decide), if_pos rfl]
    obtain rfl : m = 0 := by simpa using hm
    rfl
  · rw [encP3 h] at hm ⊢; rw [e]; unfold decV
    rw [if_neg (by decide), if_neg (by decide), if_neg (by decide), if_pos rfl]
    exact decS_cut _ _ (by omega) hm
  · rw [encP4 k0 k1 k2 k3] at hm ⊢; rw [e]; unfold decV
    rw [if_neg (by decide), if_neg (by decide), if_neg (by decide), if_neg (by decide)]
    rw [List.length_append] at hm
    rcases Nat.lt_or_ge m (uv v.l.length).length with g | g
    · rw [List.take_append_of_le_length (by omega)]
      have hn : decN mx true ((uv v.l.length).take m) = (0, 0, 19) := by
        unfold decN
        rw [rd_cut _ _ (by omega) g]
        rfl
      rw [hn]
      rfl
    · obtain ⟨j, rfl⟩ : ∃ j, m = (uv v.l.length).length + j := ⟨m - (uv v.l.length).length, by omega⟩
      rw [List.take_length_add_append, decN_enc _ _ (by omega) mx (by omega)]
      dsimp only
      rw [if_pos rfl, List.drop_left]
      exact decL_cut _ _ (fun x hx => by have := hv.e x hx; omega) (by omega)

/-! What is read was written so. -/
theorem rdU_can (b : List UInt8) : ∀ (i x n c : Nat), rdU i x b = (n, c, 0) → i ≤ 9 → x < 128 ^ i → ∃ y, n = x + y * 128 ^ i ∧ i ≤ c ∧ b.take (c - i) = uv y ∧ (0 < i → 0 < y) := by
  induction b with
  | nil => intro i x n c h; simp [rdU] at h
  | cons d r ih =>
    intro i x n c h hi hx
    simp only [rdU] at h
    split at h
    · simp at h
    · rename_i h9
      split at h
      · rename_i h128
        have hst := (stepB hi hx h9).2.2 h128
        obtain ⟨y, h1, h2, h3, h4⟩ := ih _ _ _ _ h hst.1 hst.2
        have h4 := h4 (by omega)
        refine ⟨y * 128 + d.toNat % 128, ?_, by omega, ?_, fun _ => by omega⟩
        · rw [h1, Nat.pow_succ, Nat.add_mul, Nat.mul_assoc, Nat.mul_comm 128]; omega
        · obtain ⟨j, hj⟩ : ∃ j, c - i = j + 1 := ⟨c - i - 1, by omega⟩
          rw [hj, List.take_succ_cons, show j = c - (i + 1) by omega, h3, uv_ge (n := y * 128 + d.toNat % 128) (by omega)]
          have hlt := d.toNat_lt
          rw [show (y * 128 + d.toNat % 128) / 128 = y by omega]
          congr 1
          apply UInt8.toNat_inj.1
          rw [ofNat_lt (by omega)]
          omega
      · split at h
        · simp at h
        · rename_i h128 h0
          simp only [Prod.mk.injEq] at h
          obtain ⟨h1, h2, _⟩ := h
          refine ⟨d.toNat, by rw [← h1, Nat.mod_eq_of_lt (by omega)], by omega, ?_, fun hi0 => by omega⟩
          rw [show c - i = 1 by omega, uv_lt (by omega), List.take_succ_cons, List.take_zero]
          congr 1
          apply UInt8.toNat_inj.1
          rw [ofNat_lt (by omega)]
theorem rd_can {b : List UInt8} (h : (rdU 0 0 b).2.2 = 0) : b.take (rdU 0 0 b).2.1 = uv (rdU 0 0 b).1 := by
  obtain ⟨y, h1, _, h3, _⟩ := rdU_can b 0 0 (rdU 0 0 b).1 (rdU 0 0 b).2.1 (Prod.ext rfl (Prod.ext rfl h)) (by omega) (by decide)
  rw [h1]
  simpa using h3
theorem decS_can {t : List UInt8} (h : (decS t).2.2 = 0) : t.take (decS t).2.1 = encS (decS t).1 ∧ (decS t).1.length ≤ 1048576 := by
  have hf := rdU_fits t
  unfold decS at h ⊢
  split at h
  · rename_i h0
    rw [if_pos h0]
    have hc := rd_can h0
    split at h
    · simp at h
    · rename_i h1
      rw [if_neg h1]
      split at h
      · simp at h
      · rename_i h2
        rw [if_neg h2]
        dsimp only
        have hl : ((t.drop (rdU 0 0 t).2.1).take (rdU 0 0 t).1).length = (rdU 0 0 t).1 := by rw [List.length_take, List.length_drop]; omega
        refine ⟨?_, by rw [hl]; omega⟩
        unfold encS
        rw [hl, List.take_add, hc]
  · rename_i h0; exact absurd h h0
theorem decB_can {t : List UInt8} (h : (decB t).2.2 = 0) : t.take (decB t).2.1 = [if (decB t).1 then 1 else 0] := by
  cases t with
  | nil => simp [decB] at h
  | cons c r =>
    have e : decB (c :: r) = if 1 < c.toNat then (false, 0, 3) else (decide (c.toNat = 1), 1, 0) := rfl
    by_cases h1 : 1 < c.toNat
    · rw [e, if_pos h1] at h; simp at h
    · rw [if_neg h1] at e
      have key : ∀ d : Bool × Nat × Nat, decB (c :: r) = d → (c :: r).take d.2.1 = [if d.1 then 1 else 0] → (c :: r).take (decB (c :: r)).2.1 = [if (decB (c :: r)).1 then 1 else 0] := fun d hd hh => by rw [hd]; exact hh
      refine key _ e ?_
      show [c] = _
      congr 1
      apply UInt8.toNat_inj.1
      by_cases hc : c.toNat = 1
      · rw [if_pos (decide_eq_true hc), hc]; rfl
      · rw [if_neg (by simpa using hc)]; show c.toNat = 0; omega
theorem decL_fits (n : Nat) : ∀ t, (decL n t).2.1 ≤ t.length := by
  induction n with
  | zero => intro t; exact Nat.zero_le _
  | succ n ih =>
    intro t
    have h1 := decS_fits t
    have h2 := ih (t.drop (decS t).2.1)
    rw [List.length_drop] at h2
    rw [decL]
    split
    · split
      · dsimp only; omega
      · dsimp only; omega
    · exact Nat.zero_le _
theorem decL_can (n : Nat) : ∀ t, (decL n t).2.2 = 0 → t.take (decL n t).2.1 = encL (decL n t).1 ∧ (decL n t).1.length = n := by
  induction n with
  | zero => intro t _; exact ⟨rfl, rfl⟩
  | succ n ih =>
    intro t h
    rw [decL] at h ⊢
    split at h
    · rename_i h0
      rw [if_pos h0]
      obtain ⟨h1, _⟩ := decS_can h0
      split at h
      · rename_i h2
        rw [if_pos h2]
        obtain ⟨h3, h4⟩ := ih _ h2
        dsimp only
        refine ⟨?_, by rw [List.length_cons, h4]⟩
        rw [List.take_add, h1, h3]; rfl
      · rename_i h2; exact absurd h h2
    · rename_i h0; exact absurd h h0
theorem decN_can {mx : Int} {t : List UInt8} (h : (decN mx true t).2.2 = 0) : t.take (decN mx true t).2.1 = uv (decN mx true t).1 ∧ ((decN mx true t).1 : Int) ≤ mx ∧ (decN mx true t).1 ≤ 1048576 := by
  unfold decN at h ⊢
  split at h
  · rename_i h0
    rw [if_pos h0]
    split at h
    · simp at h
    · rename_i h1
      rw [if_neg h1]
      split at h
      · rw [if_pos rfl]
        exact ⟨rd_can h0, by dsimp only; omega, by dsimp only; omega⟩
      · simp at h
  · rename_i h0; exact absurd h h0
theorem decV_fits (mx k : Int) : Fits (decV mx k) := fun t => by
  unfold decV
  split
  · exact rdU_fits t
  · split
    · exact rdU_fits t
    · split
      · exact decB_fits t
      · split
        · exact decS_fits t
        · split
          · have h1 := decN_fits mx true t
            have h2 := decL_fits (decN mx true t).1 (t.drop (decN mx true t).2.1)
            rw [List.length_drop] at h2
            dsimp only; omega
          · exact Nat.zero_le _
theorem unzz_in (u : Nat) (h : u < 18446744073709551616) : -9223372036854775808 ≤ unzz u ∧ unzz u ≤ 9223372036854775807 := by
  unfold unzz; split <;> omega
/-- A value that was read without an error is what its bytes encode, and keeps within them. -/
theorem decV_can {mx : Int} (hmx : mx ≤ 1000000) {k : Int} (hk0 : 0 ≤ k) (hk4 : k ≤ 4) {t : List UInt8} (ht : t.length ≤ 1000000) (h : (decV mx k t).2.2 = 0) : t.take (decV mx k t).2.1 = enc (decV mx k t).1 ∧ pureC (decV mx k t).1 = (decV mx k t).1 ∧ VOk (decV mx k t).1 := by
  have hr := rd_lt t
  have z1 : ((0 : Nat) < 18446744073709551616) := by omega
  have z2 : (-9223372036854775808 : Int) ≤ 0 := by omega
  have z3 : (0 : Int) ≤ 9223372036854775807 := by omega
  by_cases e0 : k = 0
  · subst e0
    have e : decV mx 0 t = (⟨0, (rdU 0 0 t).1, 0, false, [], []⟩, (rdU 0 0 t).2) := by unfold decV; rw [if_pos rfl]
    rw [e] at h ⊢
    exact ⟨by rw [enc0 rfl]; exact rd_can h, by rw [pure0 rfl], ⟨hr, z2, z3, Nat.zero_le _, Nat.zero_le _, Nat.zero_le _⟩⟩
  by_cases e1 : k = 1
  · subst e1
    have e : decV mx 1 t = (⟨1, 0, unzz (rdU 0 0 t).1, false, [], []⟩, (rdU 0 0 t).2) := by unfold decV; rw [if_neg (by decide), if_pos rfl]
    rw [e] at h ⊢
    have hz := unzz_in _ hr
    exact ⟨by rw [enc1 rfl, zz_unzz]; exact rd_can h, by rw [pure1 rfl], ⟨z1, hz.1, hz.2, Nat.zero_le _, Nat.zero_le _, Nat.zero_le _⟩⟩
  by_cases e2 : k = 2
  · subst e2
    have e : decV mx 2 t = (⟨2, 0, 0, (decB t).1, [], []⟩, (decB t).2) := by unfold decV; rw [if_neg (by decide), if_neg (by decide), if_pos rfl]
    rw [e] at h ⊢
    exact ⟨by rw [enc2 rfl]; exact decB_can h, by rw [pure2 rfl], ⟨z1, z2, z3, Nat.zero_le _, Nat.zero_le _, Nat.zero_le _⟩⟩
  by_cases e3 : k = 3
  · subst e3
    have e : decV mx 3 t = (⟨3, 0, 0, false, (decS t).1, []⟩, (decS t).2) := by unfold decV; rw [if_neg (by decide), if_neg (by decide), if_neg (by decide), if_pos rfl]
    rw [e] at h ⊢
    obtain ⟨h1, h2⟩ := decS_can h
    have h3 : (encS (decS t).1).length ≤ t.length := by rw [← h1, List.length_take]; omega
    have h4 : (decS t).1.length ≤ 1000000 := by unfold encS at h3; rw [List.length_append] at h3; omega
    exact ⟨by rw [enc3 rfl]; exact h1, by rw [pure3 rfl], ⟨z1, z2, z3, h4, Nat.zero_le _, Nat.zero_le _⟩⟩
  obtain rfl : k = 4 := by omega
  have e : decV mx 4 t = if (decN mx true t).2.2 = 0 then (⟨4, 0, 0, false, [], (decL (decN mx true t).1 (t.drop (decN mx true t).2.1)).1⟩, (decN mx true t).2.1 + (decL (decN mx true t).1 (t.drop (decN mx true t).2.1)).2.1, (decL (decN mx true t).1 (t.drop (decN mx true t).2.1)).2.2)
      else (⟨4, 0, 0, false, [], []⟩, 0, (decN mx true t).2.2) := by unfold decV; rw [if_neg (by decide), if_neg (by decide), if_neg (by decide), if_neg (by decide)]
  rw [e] at h ⊢
  split at h
  · rename_i hn
    rw [if_pos hn]
    obtain ⟨g1, g2, g3⟩ := decN_can hn
    obtain ⟨g4, g5⟩ := decL_can _ _ h
    dsimp only
    have g6 : (encL (decL (decN mx true t).1 (t.drop (decN mx true t).2.1)).1).length ≤ t.length := by rw [← g4, List.length_take, List.length_drop]; omega
    exact ⟨by rw [enc4 (show ¬ (4 : Int) = 0 by decide) (show ¬ (4 : Int) = 1 by decide) (show ¬ (4 : Int) = 2 by decide) (show ¬ (4 : Int) = 3 by decide), List.take_add, g1, g4, g5], by rw [pure4 (show ¬ (4 : Int) = 0 by decide) (show ¬ (4 : Int) = 1 by decide) (show ¬ (4 : Int) = 2 by decide) (show ¬ (4 : Int) = 3 by decide)], ⟨z1, z2, z3, Nat.zero_le _, by dsimp only; omega, by dsimp only; omega⟩⟩
  · rename_i hn; exact absurd h hn
end Go.Proofs.Ytjbghmlofjkcfaa
