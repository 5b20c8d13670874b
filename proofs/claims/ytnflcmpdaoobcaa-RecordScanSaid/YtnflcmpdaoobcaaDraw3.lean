/- Regions whose order is drawn: all orders at once. No program in sight. -/
import Derived.Test.YtnflcmpdaoobcaaDraw2
namespace Go.Proofs.Ytnflcmpdaoobcaa
open Go.RowKit

def Lf (listed : Array Bool) (k : Nat) : Bool := listed.getD k false
def cnt (L : Nat → Bool) : Nat → Nat
  | 0 => 0
  | n + 1 => cnt L n + (match L n with
    | true => 0
    | false => 1)
theorem cnt_set {L L' : Nat → Bool} {i n : Nat} (hi : L i = false) (hL : ∀ k, L' k = if k = i then true else L k) (hn : i < n) : cnt L' n + 1 = cnt L n := by
  induction n with
  | zero => omega
  | succ n ih =>
    have key : ∀ m, m ≤ i → cnt L' m = cnt L m := by
      intro m
      induction m with
      | zero => intro _; rfl
      | succ m ih => intro hm; simp only [cnt, ih (by omega), hL, if_neg (show ¬ m = i by omega)]
    by_cases e : n = i
    · subst e
      simp only [cnt, key n (Nat.le_refl _), hL, if_true, hi]
    · have := ih (by omega)
      simp only [cnt, hL, if_neg e]
      omega
theorem cnt_pos {L : Nat → Bool} {i n : Nat} (hi : L i = false) (hn : i < n) : 0 < cnt L n := by
  induction n with
  | zero => omega
  | succ n ih =>
    by_cases e : n = i
    · subst e; simp only [cnt, hi]; omega
    · have := ih (by omega); simp only [cnt]; omega
theorem Lf_set {listed : Array Bool} {i : Nat} (hi : i < listed.size) (k : Nat) : Lf (listed.setIfInBounds i true) k = if k = i then true else Lf listed k := by
  unfold Lf
  by_cases e : k = i
  · subst e; simp [hi]
  · rw [if_neg e]; simp [Array.getElem?_setIfInBounds_ne (fun h => e h.symm)]

structure PreSpec (ops : Array Oper) (pre : List (List Nat)) : Prop where
  preds : ∀ (j : Nat) o, ops[j]? = some o → ∀ x ∈ preAt pre j, ∃ e ∈ o.after, Region.binds .any e = true ∧ (e.on = x ∨ x ∈ preAt pre e.on)
  back : ∀ (j : Nat) o, ops[j]? = some o → ∀ e ∈ o.after, Region.binds .any e = true → e.on < j
  nod : ∀ (j : Nat) o, ops[j]? = some o → Op.isDefer o.op = false
theorem preOK_spec {ops : Array Oper} {pre : List (List Nat)} (h : preOK ops.toList pre pre ops.toList 0 = true) (hnd : ops.toList.all (fun o => !Op.isDefer o.op) = true) : PreSpec ops pre := by
  have key : ∀ (ls : List (List Nat)) (os : List Oper) (i : Nat), preOK ops.toList pre ls os i = true → (∀ j, preAt ls j = preAt pre (i + j)) → ∀ (j : Nat) o, os[j]? = some o →
      (∀ x ∈ preAt pre (i + j), ∃ e ∈ o.after, Region.binds .any e = true ∧ (e.on = x ∨ x ∈ preAt pre e.on)) ∧ ∀ e ∈ o.after, Region.binds .any e = true → e.on < i + j := by
    intro ls
    induction ls with
    | nil => intro os i h _ j o hj; cases os with
      | nil => simp at hj
      | cons _ _ => simp [preOK] at h
    | cons l ls ih =>
      intro os i h hp j o hj
      cases os with
      | nil => simp at hj
      | cons o' os =>
        simp only [preOK, Bool.and_eq_true] at h
        obtain ⟨h1, h2, h3⟩ := h
        cases j with
        | zero =>
          simp at hj; subst hj
          have h0 := hp 0
          simp only [preAt, Nat.add_zero] at h0
          refine ⟨fun x hx => ?_, fun e he hb => ?_⟩
          · rw [Nat.add_zero, ← h0] at hx
            have := List.all_eq_true.1 h1 x hx
            obtain ⟨e, he, hb⟩ := List.any_eq_true.1 this
            simp only [Bool.and_eq_true, Bool.or_eq_true] at hb
            exact ⟨e, Array.mem_toList_iff.1 he, hb.1, hb.2.imp Nat.eq_of_beq_eq_true memB_spec.1⟩
          · have := List.all_eq_true.1 h2 e (Array.mem_toList_iff.2 he)
            rw [hb] at this
            simpa using lt_of_blt (by simpa using this)
        | succ j =>
          have := ih os (i + 1) h3 (fun j => by have := hp (j + 1); simp only [preAt] at this; rw [this]; congr 1; omega) j o (by simpa using hj)
          rw [show i + 1 + j = i + (j + 1) by omega] at this
          exact this
  have h' := key pre ops.toList 0 h (fun j => by rw [Nat.zero_add])
  refine ⟨fun j o hj => ?_, fun j o hj => ?_, fun j o hj => by simpa using List.all_eq_true.1 hnd o (Array.mem_toList_iff.2 (Array.mem_of_getElem? hj))⟩
  · have := (h' j o (by simpa using hj)).1; rwa [Nat.zero_add] at this
  · have := (h' j o (by simpa using hj)).2; rwa [Nat.zero_add] at this
theorem PreSpec.lt {ops : Array Oper} {pre : List (List Nat)} (h : PreSpec ops pre) : ∀ j, j < ops.size → ∀ x ∈ preAt pre j, x < j := by
  intro j
  induction j using Nat.strongRecOn with
  | _ j ih =>
    intro hj x hx
    obtain ⟨e, he, hb, hx'⟩ := h.preds j _ (Array.getElem?_eq_getElem hj) x hx
    have := h.back j _ (Array.getElem?_eq_getElem hj) e he hb
    rcases hx' with rfl | hx'
    · exact this
    · have := ih e.on this (by omega) x hx'; omega

section
variable {P : Program} {ops : Array Oper} {pre : List (List Nat)} {r : Option Nat} {Q : Exit → Act → World → Prop}

/-- A segment: none of its operations need come before another one but by the edges; what follows waits for all of them. -/
theorem wpIn_mono2 {o : Oper} {a : Act} {w : World} {K K' : Act → World → Prop} {Q Q' : Exit → Act → World → Prop} (hk : ∀ a w, K a w → K' a w) (hq : ∀ e a w, e ≠ .normal → Q e a w → Q' e a w) (hh : o.wpIn (fen r) 0 P a w K Q) : o.wpIn (fen r) 0 P a w K' Q' := by
  unfold Oper.wpIn at *
  refine ⟨hh.1, ?_⟩
  have hh := hh.2
  generalize (o.semAt (fen r).round a.eval).run P w = res at *
  have hl : LetsOut Q → LetsOut Q' := fun ⟨a, w, h⟩ => ⟨a, w, hq _ _ _ (by simp) h⟩
  cases res with
  | ok x w' =>
    cases x <;> simp only [Oper.uponIn] at hh ⊢ <;>
      first
        | exact hk _ _ hh
        | exact ⟨hh.1, CallsIn.mono hh.2 (fun e w'' he => by cases e <;> first | exact hk _ _ he | exact hq _ _ _ (by simp) he | exact hl he)⟩
        | exact ⟨hh.1, RowsIn.mono hh.2 (fun _ _ he => hk _ _ he)⟩
        | exact ⟨hh.1, RoundIn.mono hh.2 (fun e w'' he => by cases e <;> first | exact hk _ _ he | exact hq _ _ _ (by simp) he | exact hl he)⟩
  | halt x w' => cases x <;> simp only [Oper.uponIn] at hh ⊢ <;> first | exact hq _ _ _ (by simp) hh | exact hh
/-- An operation runs, or its guard passes it by; within a fence. -/
def wpRunIn (P : Program) (r : Option Nat) (ops : Array Oper) (o : Oper) (Q : Exit → Act → World → Prop) (K : Act → World → Prop) (a : Act) (w : World) : Prop :=
  if Region.wanted o (yielded ops a.tmps) then o.wpIn (fen r) 0 P a w K Q else K (a.put o.dst undef) w
theorem wpRunIn_of {o : Oper} {K : Act → World → Prop} {a : Act} {w : World} (hd : Op.isDefer o.op = false) (h : wpRun P ops o K a w) : wpRunIn P r ops o Q K a w := by
  unfold wpRun at h
  unfold wpRunIn
  split
  · rename_i hw; rw [if_pos hw] at h; exact wpIn_of_wp hd h
  · rename_i hw; rw [if_neg hw] at h; exact h

theorem wpAny_seg (hp : PreSpec ops pre) (lo hi : Nat) (hhi : hi ≤ ops.size) (hcut : ∀ j, hi ≤ j → j < ops.size → ∀ x, lo ≤ x → x < hi → x ∈ preAt pre j) (Inv : (Nat → Bool) → Act → World → Prop)
    (step : ∀ (L : Nat → Bool) act w i, lo ≤ i → i < hi → L i = false → (∀ x ∈ preAt pre i, L x = true) → (∀ j, j < ops.size → L j = true → ∀ x ∈ preAt pre j, L x = true) → Inv L act w → ∃ o, ops[i]? = some o ∧ wpRunIn P r ops o Q (Inv fun k => if k = i then true else L k) act w)
    (fin : ∀ listed act w, listed.size = ops.size → (∀ k, Lf listed k = decide (k < hi)) → Inv (Lf listed) act w → wpAnyIn (fen r) 0 P .any ops Q (cnt (Lf listed) ops.size) listed act w) :
    ∀ fuel (listed : Array Bool) act w, listed.size = ops.size → fuel = cnt (Lf listed) ops.size → (∀ j, j < ops.size → Lf listed j = true → ∀ x ∈ preAt pre j, Lf listed x = true) → (∀ k, k < lo → Lf listed k = true) → (∀ k, hi ≤ k → Lf listed k = false) → Inv (Lf listed) act w → wpAnyIn (fen r) 0 P .any ops Q fuel listed act w := by
  intro fuel
  induction fuel with
  | zero =>
    intro listed act w hsz hf hcl hlo hhi2 hI
    have hfull : ∀ k, Lf listed k = decide (k < hi) := fun k => by
      by_cases hk : k < hi
      · rw [decide_eq_true hk]
        cases hL : Lf listed k with
        | true => rfl
        | false => have := cnt_pos hL (show k < ops.size by omega); omega
      · rw [decide_eq_false hk]; exact hhi2 k (by omega)
    have := fin listed act w hsz hfull hI
    rwa [← hf] at this
  | succ fuel ih =>
    intro listed act w hsz hf hcl hlo hhi2 hI
    by_cases hfull : ∀ k, lo ≤ k → k < hi → Lf listed k = true
    · have := fin listed act w hsz (fun k => by
        by_cases hk : k < hi
        · rw [decide_eq_true hk]
          by_cases hkl : k < lo
          · exact hlo k hkl
          · exact hfull k (by omega) hk
        · rw [decide_eq_false hk]; exact hhi2 k (by omega)) hI
      rwa [← hf] at this
    · have hmr : ∀ {j}, j ∈ Region.ready .any ops listed → j < ops.size ∧ Lf listed j = false ∧ ∀ x ∈ preAt pre j, Lf listed x = true := fun {j} hj => by
        obtain ⟨h1, o, h2, h3⟩ := mem_ready.1 hj
        have hlt : j < ops.size := (Array.getElem?_eq_some_iff.1 h2).1
        refine ⟨hlt, ?_, fun x hx => ?_⟩
        · unfold Lf
          rw [Array.getD_eq_getD_getElem?, Array.getElem?_eq_getElem (by omega)] at h1 ⊢
          exact h1
        · obtain ⟨e, he, hb, hx'⟩ := hp.preds j o h2 x hx
          have he' := h3 e he hb
          rcases hx' with rfl | hx'
          · exact he'
          · exact hcl e.on (by have := hp.back j o h2 e he hb; omega) he' x hx'
      have hne : Region.ready .any ops listed ≠ [] := by
        have hex : ∃ k, k < ops.size ∧ Lf listed k = false := by
          refine Classical.byContradiction fun hh => hfull fun k hk1 hk2 => ?_
          cases hL : Lf listed k with
          | true => rfl
          | false => exact absurd ⟨k, by omega, hL⟩ hh
        obtain ⟨k, hk⟩ := hex
        have hmin : ∃ k, (k < ops.size ∧ Lf listed k = false) ∧ ∀ j, j < k → ¬ (j < ops.size ∧ Lf listed j = false) := by
          revert hk
          induction k using Nat.strongRecOn with
          | _ k ihk =>
            intro hk
            by_cases hj : ∃ j, j < k ∧ (j < ops.size ∧ Lf listed j = false)
            · obtain ⟨j, h1, h2⟩ := hj; exact ihk j h1 h2
            · exact ⟨k, hk, fun j h1 h2 => hj ⟨j, h1, h2⟩⟩
        obtain ⟨k, hk, hkm⟩ := hmin
        have hr : k ∈ Region.ready .any ops listed := by
          refine mem_ready.2 ⟨?_, ops[k], Array.getElem?_eq_getElem hk.1, fun e he hb => ?_⟩
          · have := hk.2
            unfold Lf at this
            rw [Array.getD_eq_getD_getElem?, Array.getElem?_eq_getElem (by omega)] at this ⊢
            exact this
          · have hlt := hp.back k _ (Array.getElem?_eq_getElem hk.1) e he hb
            cases hL : Lf listed e.on with
            | true => exact hL
            | false => exact absurd ⟨by omega, hL⟩ (hkm e.on hlt)
        intro h0
        rw [h0] at hr; cases hr
      refine ⟨fun h0 => absurd h0 hne, fun i hi' => ?_⟩
      obtain ⟨h1, h2, h3⟩ := hmr hi'
      have hlo' : lo ≤ i := Nat.le_of_not_lt fun hh => by rw [hlo i hh] at h2; cases h2
      have hhi' : i < hi := Nat.lt_of_not_le fun hh => hfull fun k hk1 hk2 => h3 k (hcut i hh h1 k hk1 hk2)
      obtain ⟨o, ho, hrun⟩ := step (Lf listed) act w i hlo' hhi' h2 h3 hcl hI
      have hset := Lf_set (listed := listed) (i := i) (by omega)
      have next : ∀ act' w', Inv (fun k => if k = i then true else Lf listed k) act' w' → wpAnyIn (fen r) 0 P .any ops Q fuel (listed.setIfInBounds i true) act' w' := fun act' w' hI' => by
        refine ih _ act' w' (by simpa using hsz) ?_ (fun j hj hL x hx => ?_) (fun k hk => ?_) (fun k hk => ?_) ?_
        · have := cnt_set h2 hset h1; omega
        · rw [hset] at hL ⊢
          by_cases e : x = i
          · rw [if_pos e]
          · rw [if_neg e]
            by_cases e2 : j = i
            · subst e2; exact h3 x hx
            · rw [if_neg e2] at hL; exact hcl j hj hL x hx
        · rw [hset]; split
          · rfl
          · exact hlo k hk
        · rw [hset, if_neg (by omega)]; exact hhi2 k hk
        · have : Lf (listed.setIfInBounds i true) = fun k => if k = i then true else Lf listed k := funext hset
          rw [this]; exact hI'
      unfold wpOpIn
      rw [ho]
      simp only []
      unfold wpRunIn at hrun
      split
      · rename_i hw
        rw [if_pos hw] at hrun
        exact wpIn_mono2 next (fun _ _ _ _ h => h) hrun
      · rename_i hw
        rw [if_neg hw] at hrun
        exact ⟨fun _ _ => trivial, next _ _ hrun⟩
end

end Go.Proofs.Ytnflcmpdaoobcaa
