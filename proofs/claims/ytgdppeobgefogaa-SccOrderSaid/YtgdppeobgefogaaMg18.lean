/- Layer 31: the reference's Order. -/
import Derived.Test.YtgdppeobgefogaaMg17
namespace Go.Proofs.Ytgdppeobgefogaa
open Go.RowKit
set_option maxRecDepth 100000 in
theorem hasN_p (l : List Nat) (x : Nat) (hl : l.length ≤ 2000000) : PCalls Try.prog 39 [.d (natsD l), .d (natD x)] (boolD (decide (x ∈ l))) := by
  refine Za1 Try.func39 rfl rfl Try.ntmps39 rfl rfl rfl fun F hF => (Zag (Zae ?_));refine goAs rfl rfl (Zaf (Zag (Zag (Zae (goAs rfl rfl (Zaf (Zaz (a_loop (α := Nat) (fun k => ⟨18, [(0, .d (natsD l)), (1, .d (natD x)), (5, (.d (natD k)))], []⟩) (fun k => k ≤ l.length ∧ x ∉ l.take k) (fun k => l.length - k) (0) (⟨Nat.zero_le _, by simp⟩) (le_of_has ⟨rfl, rfl, rfl, trivial⟩) ?_))))))));rintro k ⟨hk, hx⟩;refine Zag (Zag (Zae (goMv rfl rfl (goMv rfl rfl (Zab.go (ZaD rfl (List.length_map ..) Try.underlying25 rfl) ?_)))))
  first | refine Zab.go (ZaW rfl rfl rfl) ?_ | refine Zab.go (ZaS rfl rfl rfl) ?_
  refine Zaf ?_
  first | refine ZaR rfl (fun h9 => ?_) (fun h9 => ?_) | refine ZaF rfl (fun h9 => ?_) (fun h9 => ?_)
  · refine ZaC (Zag (Zaz (Zag ?_)));have hkl : k < l.length := Zbd h9;refine Zae (goMv rfl rfl (goMv rfl rfl ?_))
    first | refine Zab.go (Zam (k) rfl rfl (rfl) (getn hkl) Try.underlying25 rfl sz3 rfl) ?_ | refine Zab.go (Zal (k) rfl rfl (rfl) (getn hkl) rfl Try.underlying25 sz3 rfl) ?_
    first | refine Zab.go (Zah rfl rfl on3 rfl) ?_ | refine Zab.go (Zak rfl rfl rfl on3 rfl) ?_ | refine Zab.go (Zaj rfl rfl (rfl) rfl on3 rfl) ?_
    refine goMv rfl rfl ?_
    first | refine Zab.go (Zbl rfl rfl rfl) ?_ | refine Zab.go (ZaY rfl rfl rfl) ?_ | refine Zab.go (Za5 rfl rfl rfl) ?_ | refine Zab.go (Za9 Try.underlying3 rfl rfl rfl) ?_ | refine Zab.go (Za6 Try.underlying3 rfl rfl rfl) ?_ | refine Zab.go (Za7 Try.underlying3 rfl rfl) ?_ | refine Zab.go (Za8 Try.underlying3 rfl rfl rfl) ?_ | refine Zab.go (ZaZ Try.underlying3 rfl rfl) ?_
    refine Zaf ?_
    first | refine ZaR rfl (fun h17 => ?_) (fun h17 => ?_) | refine ZaF rfl (fun h17 => ?_) (fun h17 => ?_)
    · refine Zag (Zae (goAs rfl rfl (Zaf (Zbb ?_))));exact ⟨_, [], [], ZaQ rfl, rfl, rfl, by rw [decide_eq_true (Int.ofNat.inj h17 ▸ Zbv hkl)], rfl⟩
    · refine ZaC (Zae (goMv rfl rfl (Zab.go (ZaL rfl rfl (IntWalk.i64_in _ (by omega)) rfl) (goAs rfl rfl (Zaf ?_)))));exact ⟨k + 1, ⟨hkl, fun hm => by rw [List.take_succ_eq_append_getElem hkl] at hm; exact (List.mem_append.1 hm).elim hx fun e => h17 (by rw [List.mem_singleton.1 e, Zbm hkl])⟩, by omega, ⟨rfl, rfl, fun _ _ => Has.get (l := [(0, _), (1, _), (5, _)]) ⟨rfl, rfl, rfl, trivial⟩⟩⟩
  · refine ZaJ (Zag (Zae (goAs rfl rfl (Zaf (Zbb ?_)))));exact ⟨_, [], [], ZaQ rfl, rfl, rfl, by rw [decide_eq_false (by rw [← List.take_of_length_le (i := k) (l := l) (by have := h9; omega)]; exact hx)], rfl⟩
abbrev rowB (n : Nat) (out : List Nat) : List D := (List.range n).map fun v => boolD (decide (v ∈ out))
theorem rowB_get {n i : Nat} {out : List Nat} (h : i < n) : (rowB n out)[i]? = some (boolD (decide (i ∈ out))) := by simp [h]
theorem rowB_len (n : Nat) (out : List Nat) : (rowB n out).length = n := by simp
theorem rowB_set {n i : Nat} {out : List Nat} : (rowB n out).set i (boolD true) = rowB n (out ++ [i]) :=
  row_set (fun j _ hne => congrArg boolD (decide_eq_decide.2 ⟨fun h => List.mem_append_left _ h, fun h => (List.mem_append.1 h).elim id fun e => (hne (List.mem_singleton.1 e)).elim⟩)) (by rw [decide_eq_true (List.mem_append_right _ (List.mem_singleton.2 rfl))])
theorem repB (n : Nat) : List.replicate n (D.raw (.bool false)) = rowB n [] := by
  refine List.ext_getElem (by simp) fun j h1 h2 => ?_
  simp
def FR (g : List (List Nat)) (out : List Nat) (i k : Nat) : Prop := i ∉ out ∧ ∀ a, a < k → a ∈ out ∨ i ∉ sucs g a
noncomputable instance (g : List (List Nat)) (out : List Nat) (i k : Nat) : Decidable (FR g out i k) := Classical.propDecidable _
theorem fr_zero {g : List (List Nat)} {out : List Nat} {i : Nat} : AV.d (boolD (decide (¬ i ∈ out))) = AV.d (boolD (decide (FR g out i 0))) := bdec ⟨fun h => ⟨h, fun a ha => by omega⟩, fun h => h.1⟩
theorem fr_T {g : List (List Nat)} {out : List Nat} {i k : Nat} (h : FR g out i k) (hk : k ∈ out) : AV.d (boolD true) = AV.d (boolD (decide (FR g out i (k + 1)))) := by
  rw [decide_eq_true (show FR g out i (k + 1) from ⟨h.1, fun a ha => by
    by_cases e : a = k
    · subst e; exact .inl hk
    · exact h.2 a (by omega)⟩)]
theorem fr_H {g : List (List Nat)} {out : List Nat} {i k : Nat} (h : FR g out i k) (hk : ¬ k ∈ out) : AV.d (boolD (decide (¬ i ∈ sucs g k))) = AV.d (boolD (decide (FR g out i (k + 1)))) := bdec ⟨fun hn => ⟨h.1, fun a ha => by
    by_cases e : a = k
    · subst e; exact .inr hn
    · exact h.2 a (by omega)⟩, fun hf => (hf.2 k (by omega)).resolve_left hk⟩
theorem fr_F {g : List (List Nat)} {out : List Nat} {i k : Nat} (h : ¬ FR g out i k) : AV.d (boolD false) = AV.d (boolD (decide (FR g out i (k + 1)))) := by
  rw [decide_eq_false (show ¬ FR g out i (k + 1) from fun hf => h ⟨hf.1, fun a ha => hf.2 a (by omega)⟩)]
theorem fr_av {g : List (List Nat)} {out : List Nat} {i : Nat} (hi : i < g.length) : FR g out i g.length ↔ avail g out i :=
  ⟨fun h => ⟨hi, h.1, fun k hk hn => (h.2 k hk).resolve_left hn⟩, fun h => ⟨h.2.1, fun a ha => by
    by_cases e : a ∈ out
    · exact .inl e
    · exact .inr (h.2.2 a ha e)⟩⟩
structure LA (g : List (List Nat)) (out : List Nat) (m : Nat) (o : Option Nat) : Prop where
  nn : o = none → ∀ i, m ≤ i → ¬ avail g out i
  so : ∀ x, o = some x → avail g out x ∧ ∀ i, m ≤ i → avail g out i → x ≤ i
theorem la_start {g : List (List Nat)} {out : List Nat} {m : Nat} (h : m = g.length) : LA g out m none := ⟨fun _ i hi hc => by have := hc.1; omega, fun x e => (by cases e)⟩
theorem la_hit {g : List (List Nat)} {out : List Nat} {i : Nat} {o : Option Nat} (hc : avail g out i) : LA g out i (some i) := ⟨fun e => (by cases e), fun x e => by injection e with e; subst e; exact ⟨hc, fun j hj _ => hj⟩⟩
theorem la_miss {g : List (List Nat)} {out : List Nat} {i : Nat} {o : Option Nat} (h : LA g out (i + 1) o) (hc : ¬ avail g out i) : LA g out i o :=
  ⟨fun e j hj hcj => by
    by_cases e2 : j = i
    · subst e2; exact hc hcj
    · exact h.nn e j (by omega) hcj, fun x e => ⟨(h.so x e).1, fun j hj hcj => by
    by_cases e2 : j = i
    · subst e2; exact (hc hcj).elim
    · exact (h.so x e).2 j (by omega) hcj⟩⟩
theorem full_none {g : List (List Nat)} {out : List Nat} (h : Grd g idK out) (hl : ¬ out.length < g.length) : ∀ y, ¬ avail g out y := fun y hy => by
  obtain ⟨h1, h2⟩ := grd_nodup h;have := ZbJ (List.nodup_cons.2 ⟨hy.2.1, h1⟩) (m := List.range g.length) fun x hx => List.mem_range.2 ((List.mem_cons.1 hx).elim (fun e => e ▸ hy.1) (h2 x));rw [List.length_cons, List.length_range] at this;omega
set_option maxRecDepth 100000 in
theorem reforder_p (g : List (List Nat)) (hg : GB g) : PCalls Try.prog 22 [.d (grD g)] (if (ordG g idK).length = g.length then .tup [natsD (ordG g idK), boolD true] else .tup [.sl (some true) [], boolD false]) := by
  have hn := hg.n;have hid : ∀ a b, a < g.length → b < g.length → idK a = idK b → a = b := fun a b _ _ h => h;refine Za1 Try.func22 rfl rfl Try.ntmps22 rfl rfl rfl fun F hF => (Zag (Zae (goAs rfl rfl (goAs rfl rfl ?_))));refine Zaf (Zag (Zae (goMv rfl rfl (Zab.go (ZaD rfl (List.length_map ..) Try.underlying22 rfl) (Zau.go (ZbQ 0 sl48 rfl rfl rfl (by omega) zd4 rfl rfl rfl rfl) (goAs rfl rfl (Zaf (Zag ?_))))))));rw [repB];refine Zae (goAs rfl rfl (Zaf (Zag (Zaz (a_adopt 5 1 sl25 rfl rfl rfl rfl (ZaV (α := List Nat) (fun out => ⟨64, [(0, .d (grD g)), (4, (.own 0 0 g.length)), (5, (.own 1 0 out.length))], [(0, [.rowD 4 1 (rowB g.length out)]), (1, [.rowD 3 1 (out.map natD)])]⟩) (fun out => Grd g idK out) (fun out => g.length - out.length) ([]) ((fun i hi => by simp at hi)) (Zay hF [0, 1] rfl rfl ⟨rfl, rfl, rfl, trivial⟩) ?_))))));intro out hG;refine Zag (Zag (Zae (goMv rfl rfl ?_)))
  first | refine Zab.go (ZaX rfl Try.underlying25 rfl) ?_ | refine Zab.go (ZaD rfl rfl Try.underlying25 rfl) ?_ | refine Zab.go (Zbc rfl Try.underlying25 rfl) ?_ | refine Zab.go (Za4 rfl Try.underlying25 rfl) ?_ | refine Zab.go (Zbg rfl Try.underlying25 rfl) ?_ | refine Zab.go (Zbf rfl Try.underlying25 rfl) ?_
  refine goMv rfl rfl (Zab.go (ZaD rfl (List.length_map ..) Try.underlying22 rfl) ?_)
  first | refine Zab.go (ZaW rfl rfl rfl) ?_ | refine Zab.go (ZaS rfl rfl rfl) ?_
  refine Zaf ?_
  first | refine ZaR rfl (fun h17 => ?_) (fun h17 => ?_) | refine ZaF rfl (fun h17 => ?_) (fun h17 => ?_)
  · refine ZaC (Zaz (Zag ?_));have hol : out.length < g.length := Zbd h17;refine Zae (goAs rfl rfl (Zaf (Zag (Zag ?_))));refine Zae (goMv rfl rfl (Zab.go (ZaD rfl (List.length_map ..) Try.underlying22 rfl) (Zab.go (Zbi rfl rfl (IntWalk.i64_in _ (by omega)) rfl) (o_as 20 (.d (intD ((g.length : Int) - 1 - ((0 : Nat) : Int)))) rfl (eqv (congrArg intD (by omega))) (goAs rfl rfl (Zaf (Zaz (ZaV (α := Nat × Option Nat) (fun q => ⟨64, [(0, .d (grD g)), (4, (.own 0 0 g.length)), (5, (.own 1 0 out.length)), (6, (.d (intD (encO q.2)))), (7, (.d (intD ((g.length : Int) - 1 - (q.1 : Int)))))], [(0, [.rowD 4 1 (rowB g.length out)]), (1, [.rowD 3 1 (out.map natD)])]⟩) (fun q => q.1 ≤ g.length ∧ LA g out (g.length - q.1) q.2) (fun q => g.length - q.1) ((0, none)) (⟨Nat.zero_le _, la_start rfl⟩) (Zay hF [0, 1] rfl rfl ⟨rfl, rfl, rfl, rfl, rfl, trivial⟩) ?_))))))));rintro ⟨d, o⟩ ⟨hd, hLA⟩;dsimp only at hd hLA ⊢;refine Zag (Zag (Zae (goMv rfl rfl (Zab.go (st_geq rfl rfl rfl) (Zaf ?_)))))
    first | refine ZaR rfl (fun h22 => ?_) (fun h22 => ?_) | refine ZaF rfl (fun h22 => ?_) (fun h22 => ?_)
    · refine ZaC (Zag (Zaz (Zag ?_)));have hdl : d < g.length := by have := h22; omega
      refine a_as 7 (.d (natD (g.length - 1 - d))) rfl (eqv (congrArg intD (by omega))) ?_
      obtain ⟨i, hie⟩ : ∃ i, g.length - 1 - d = i := ⟨_, rfl⟩
      rw [hie];have hil : i < g.length := by omega
      have hie2 : i = g.length - (d + 1) := by omega
      have hie3 : g.length - d = i + 1 := by omega
      refine Zae (goMv rfl rfl (goMv rfl rfl ?_))
      first | refine Zab.go (Zam (i) rfl rfl (rfl) (hil) Try.underlying48 rfl sz4 rfl) ?_ | refine Zab.go (Zal (i) rfl rfl (rfl) (hil) rfl Try.underlying48 sz4 rfl) ?_
      first | refine Zab.go (Zah rfl rfl on4 rfl) ?_ | refine Zab.go (Zak rfl rfl rfl on4 rfl) ?_ | refine Zab.go (Zaj rfl rfl (rowB_get hil) rfl on4 rfl) ?_
      first | refine Zab.go (ZbD rfl rfl) ?_ | refine Zab.go (ZbI rfl rfl) ?_
      refine o_as 29 (.d (boolD (decide (FR g out i 0)))) rfl fr_zero ?_;refine goAs rfl rfl (Zaf (Zag (Zag (Zae (goAs rfl rfl (Zaf (Zaz (ZaV (α := Nat) (fun k => ⟨64, [(0, .d (grD g)), (4, (.own 0 0 g.length)), (5, (.own 1 0 out.length)), (6, (.d (intD (encO o)))), (7, (.d (natD i))), (8, (.d (boolD (decide (FR g out i k))))), (9, (.d (natD k)))], [(0, [.rowD 4 1 (rowB g.length out)]), (1, [.rowD 3 1 (out.map natD)])]⟩) (fun k => k ≤ g.length) (fun k => g.length - k) (0) (Nat.zero_le _) (Zay hF [0, 1] rfl rfl ⟨rfl, rfl, rfl, rfl, rfl, rfl, rfl, trivial⟩) ?_))))))));intro k hk;refine Zag (Zag (Zae (goMv rfl rfl (goMv rfl rfl (Zab.go (ZaD rfl (List.length_map ..) Try.underlying22 rfl) ?_)))))
      first | refine Zab.go (ZaW rfl rfl rfl) ?_ | refine Zab.go (ZaS rfl rfl rfl) ?_
      refine Zaf ?_
      first | refine ZaR rfl (fun h33 => ?_) (fun h33 => ?_) | refine ZaF rfl (fun h33 => ?_) (fun h33 => ?_)
      · refine ZaC (Zag (Zaz ?_));have hkl : k < g.length := Zbd h33;have hsl := hg.len hkl;refine Zae (goMv rfl rfl (goMv rfl rfl ?_))
        first | refine Zbt 37 rfl (fun h37 => ?_) (fun h37 => ?_) | refine Zbr 37 rfl (fun h37 => ?_) (fun h37 => ?_)
        · refine ZaH rfl rfl rfl (goMv rfl rfl (ZaH rfl rfl rfl (goMv rfl rfl (ZaH rfl rfl rfl ?_))))
          first | refine Zab.go (Zam (k) rfl rfl (rfl) (hkl) Try.underlying48 rfl sz4 rfl) ?_ | refine Zab.go (Zal (k) rfl rfl (rfl) (hkl) rfl Try.underlying48 sz4 rfl) ?_
          refine ZaH rfl rfl rfl ?_
          first | refine Zab.go (Zah rfl rfl on4 rfl) ?_ | refine Zab.go (Zak rfl rfl rfl on4 rfl) ?_ | refine Zab.go (Zaj rfl rfl (rowB_get hkl) rfl on4 rfl) ?_
          refine ZaH rfl rfl rfl (goMv rfl rfl ?_)
          first | refine Zbt 42 rfl (fun h42 => ?_) (fun h42 => ?_) | refine Zbr 42 rfl (fun h42 => ?_) (fun h42 => ?_)
          · refine ZaG rfl rfl rfl rfl (ZaG rfl rfl rfl rfl (ZaG rfl rfl rfl rfl (ZaG rfl rfl rfl rfl (ZaG rfl rfl rfl rfl (ZaG rfl rfl rfl rfl (ZaG rfl rfl rfl rfl (ZaH rfl rfl rfl (Zab.go (Za3 rfl rfl rfl rfl) ?_))))))));refine Zab.go (Za3 rfl rfl rfl rfl) (goAs rfl rfl (Zaf (a_as 8 (.d (boolD (decide (FR g out i (k + 1))))) rfl (by first | exact fr_T h37 h42 | exact fr_H h37 h42 | exact fr_F h37) (Zae (goMv rfl rfl (Zab.go (ZaL rfl rfl (IntWalk.i64_in _ (by omega)) rfl) (goAs rfl rfl (Zaf ?_))))))));exact ⟨k + 1, hkl, by omega, Zay hF [0, 1] rfl (rfl) ⟨rfl, rfl, rfl, rfl, rfl, rfl, rfl, trivial⟩⟩
          · refine ZaH rfl rfl rfl (goMv rfl rfl (ZaH rfl rfl rfl (goMv rfl rfl (ZaH rfl rfl rfl ?_))))
            first | refine Zab.go (Zam (k) rfl rfl (rfl) (getg hkl) Try.underlying22 rfl sz25 rfl) ?_ | refine Zab.go (Zal (k) rfl rfl (rfl) (getg hkl) rfl Try.underlying22 sz25 rfl) ?_
            refine ZaH rfl rfl rfl ?_
            first | refine Zab.go (Zah rfl rfl on25 rfl) ?_ | refine Zab.go (Zak rfl rfl rfl on25 rfl) ?_ | refine Zab.go (Zaj rfl rfl (rfl) rfl on25 rfl) ?_
            refine ZaH rfl rfl rfl (goMv rfl rfl (ZaH rfl rfl rfl (Zab.go (Zbo (hasN_p (sucs g k) i (by omega)) rfl rfl) (ZaH rfl rfl rfl ?_))))
            first | refine Zab.go (ZbD rfl rfl) ?_ | refine Zab.go (ZbI rfl rfl) ?_
            refine ZaH rfl rfl rfl (Zab.go (Za2 rfl rfl rfl rfl) ?_);refine Zab.go (Za3 rfl rfl rfl rfl) (goAs rfl rfl (Zaf (a_as 8 (.d (boolD (decide (FR g out i (k + 1))))) rfl (by first | exact fr_T h37 h42 | exact fr_H h37 h42 | exact fr_F h37) (Zae (goMv rfl rfl (Zab.go (ZaL rfl rfl (IntWalk.i64_in _ (by omega)) rfl) (goAs rfl rfl (Zaf ?_))))))));exact ⟨k + 1, hkl, by omega, Zay hF [0, 1] rfl (rfl) ⟨rfl, rfl, rfl, rfl, rfl, rfl, rfl, trivial⟩⟩
        · refine ZaG rfl rfl rfl rfl (ZaG rfl rfl rfl rfl (ZaG rfl rfl rfl rfl (ZaG rfl rfl rfl rfl ?_)));refine ZaG rfl rfl rfl rfl (o_passU rfl rfl rfl (o_passU rfl rfl rfl (o_passU rfl rfl rfl (o_passU rfl rfl rfl (o_passU rfl rfl rfl (o_passU rfl rfl rfl (o_passU rfl rfl rfl (ZaG rfl rfl rfl rfl ?_))))))));refine Zab.go (Za2 rfl rfl rfl rfl) (goAs rfl rfl (Zaf (a_as 8 (.d (boolD (decide (FR g out i (k + 1))))) rfl (by first | exact fr_T h37 h42 | exact fr_H h37 h42 | exact fr_F h37) (Zae (goMv rfl rfl (Zab.go (ZaL rfl rfl (IntWalk.i64_in _ (by omega)) rfl) (goAs rfl rfl (Zaf ?_))))))));exact ⟨k + 1, hkl, by omega, Zay hF [0, 1] rfl (rfl) ⟨rfl, rfl, rfl, rfl, rfl, rfl, rfl, trivial⟩⟩
      · refine ZaJ (Zag ?_);have hkn : k = g.length := by have := h33; omega
        subst hkn;refine Zae (goMv rfl rfl (Zaf ?_))
        first | refine ZaR rfl (fun h52 => ?_) (fun h52 => ?_) | refine ZaF rfl (fun h52 => ?_) (fun h52 => ?_)
        · refine Zae ?_;refine goMv rfl rfl (goAs rfl rfl (Zaf (Zae (goMv rfl rfl (Zab.go (Zbi rfl rfl (IntWalk.i64_in _ (by omega)) rfl) (o_as 24 (.d (intD ((g.length : Int) - 1 - ((d + 1 : Nat) : Int)))) rfl (eqv (congrArg intD (by omega))) (goAs rfl rfl (Zaf ?_))))))));exact ⟨(d + 1, some i), ⟨hdl, hie2 ▸ la_hit (o := o) ((fr_av hil).1 h52)⟩, by show g.length - (d + 1) < g.length - d; omega, Zay hF [0, 1] rfl (rfl) ⟨rfl, rfl, rfl, rfl, rfl, trivial⟩⟩
        · refine ZaC (Zae (goMv rfl rfl (Zab.go (Zbi rfl rfl (IntWalk.i64_in _ (by omega)) rfl) (o_as 24 (.d (intD ((g.length : Int) - 1 - ((d + 1 : Nat) : Int)))) rfl (eqv (congrArg intD (by omega))) (goAs rfl rfl (Zaf ?_))))));exact ⟨(d + 1, o), ⟨hdl, hie2 ▸ la_miss (hie3 ▸ hLA) (fun hc => h52 ((fr_av hil).2 hc))⟩, by show g.length - (d + 1) < g.length - d; omega, Zay hF [0, 1] rfl (rfl) ⟨rfl, rfl, rfl, rfl, rfl, trivial⟩⟩
    · refine ZaJ (Zag (Zag ?_));have hdn : g.length - d = 0 := by have := h22; omega
      rw [hdn] at hLA;refine Zae (goMv rfl rfl ?_)
      first | refine Zab.go (ZaW rfl rfl rfl) ?_ | refine Zab.go (ZaS rfl rfl rfl) ?_
      refine Zaf ?_
      first | refine ZaR rfl (fun h55 => ?_) (fun h55 => ?_) | refine ZaF rfl (fun h55 => ?_) (fun h55 => ?_)
      · refine Zag (Zae (goAs rfl rfl (goAs rfl rfl (Zaf (Zbb ?_)))));have hon : o = none := by cases o with | none => rfl | some x => exact absurd h55 (by show ¬ ((x : Int) < 0); omega)
        have hoe := ordG_eq hid hG (fun y hy => hLA.nn hon y (Nat.zero_le _) hy);exact ⟨_, [], [], ZaQ rfl, rfl, rfl, by rw [hoe, if_neg (by omega)], rfl⟩
      · refine ZaC (Zag ?_);obtain ⟨x, hx⟩ : ∃ x, o = some x := by cases o with | none => exact absurd (show encO none < 0 by decide) h55 | some x => exact ⟨x, rfl⟩
        subst hx;have hxa := hLA.so x rfl;have hxl := hxa.1.1;refine Zae (goMv rfl rfl (goMv rfl rfl ?_))
        first | refine Zab.go (Zam (x) rfl rfl (rfl) (hxl) Try.underlying48 rfl sz4 rfl) ?_ | refine Zab.go (Zal (x) rfl rfl (rfl) (hxl) rfl Try.underlying48 sz4 rfl) ?_
        refine Zau.go (Zbh rfl rfl rfl rfl rfl (by rw [rowB_len]; exact hxl) rowB_set rfl sz4) (Zaf (Zae (goMv rfl rfl (goMv rfl rfl (Zau.go (ZaN 21 sl25 rfl rfl rfl rfl rfl rfl rfl rfl) (Zau.go (ZbR (emb := natD) out [x] rfl rfl rfl rfl rfl rfl rfl rfl sl25 (by show (out.length + 1) * 8 ≤ _; omega) rfl rfl rfl rfl) (goAs rfl rfl (Zaf ?_))))))));exact ⟨out ++ [x], grd_snoc hG hxa.1 (fun y hy => hxa.2 y (Nat.zero_le _) hy), by rw [List.length_append, List.length_singleton]; omega, Zay hF [0, 1] rfl (rfl) ⟨rfl, rfl, rfl, trivial⟩⟩
  · refine ZaJ (Zag ?_);have hnl : ¬ out.length < g.length := fun h => h17 (Int.ofNat_lt.2 h);have hoe := ordG_eq hid hG (full_none hG hnl);have hle := ordG_len g idK;refine Zbn (emb := natD) 5 1 out rfl rfl rfl rfl rfl rfl rfl (Zae (goMv rfl rfl (goAs rfl rfl (goAs rfl rfl (Zaf (Zbb ?_))))));exact ⟨_, [], [], ZaQ rfl, rfl, rfl, by rw [hoe] at hle ⊢; rw [if_pos (by omega)], rfl⟩
end Go.Proofs.Ytgdppeobgefogaa
/- Layer 31: an order of all nodes exists if and only if there is no cycle. Plain laws. -/
namespace Go.Proofs.Ytgdppeobgefogaa
open Go.RowKit
theorem wk_rank {g : List (List Nat)} {ok : Nat → Prop} {s : Nat} {f : Nat → Nat} (hf : ∀ u v, u < g.length → v ∈ sucs g u → f u < f v) (hs : s < g.length) : ∀ k u, Wk (revG g) ok s k u → u < g.length ∧ f u + k ≤ f s
  | 0, u, h => by have h : u = s := h; subst h; exact ⟨hs, Nat.le_refl _⟩
  | k + 1, u, ⟨_, v, hv, hm⟩ => by
    obtain ⟨h1, h2⟩ := wk_rank hf hs k v hv;obtain ⟨h3, h4⟩ := (revG_mem h1).1 hm;have := hf u v h3 h4;exact ⟨h3, by omega⟩
theorem acyc_none {g : List (List Nat)} (hg : GB g) (hl : (ordG g idK).length = g.length) {best : Nat} {out : List Nat} (h : CI g g.length best out) : out = [] := by
  obtain ⟨h1, _⟩ := ordG_spec g idK;obtain ⟨hnd, hlt⟩ := grd_nodup h1
  obtain ⟨l, hle⟩ : ∃ l, ordG g idK = l := ⟨_, rfl⟩
  rw [hle] at h1 hnd hlt hl
  have hall : ∀ v, v < g.length → v ∈ l := fun v hv => Classical.byContradiction fun hn => by
    have := ZbJ (List.nodup_cons.2 ⟨hn, hnd⟩) (m := List.range g.length) fun x hx => List.mem_range.2 ((List.mem_cons.1 hx).elim (fun e => e ▸ hv) (hlt x));rw [List.length_cons, List.length_range] at this;omega
  have hf : ∀ u v, u < g.length → v ∈ sucs g u → l.idxOf u < l.idxOf v := fun u v hu hv => by
    have hvl := hg.suc hu hv;have hiv := List.idxOf_lt_length_of_mem (hall v hvl);have ha := (h1 (l.idxOf v) hiv).1;have e : nth l (l.idxOf v) = v := by rw [Zbm hiv]; exact List.getElem_idxOf hiv
    rw [e] at ha;have hin : u ∈ l.take (l.idxOf v) := Classical.byContradiction fun hn => ha.2.2 u hu hn hv;obtain ⟨i, hi, e2⟩ := List.mem_iff_getElem.1 hin;rw [List.length_take] at hi;rw [List.getElem_take] at e2;rw [← e2, hnd.idxOf_getElem i (by omega)];omega
  refine Classical.byContradiction fun hne => ?_;obtain ⟨s, lim, d, hs, hD, hds, _⟩ := h.some hne;have hb := h.b1;have := (wk_rank hf hs _ _ (hD.a s (by omega)).1).2;omega
theorem pigeon {n : Nat} {c : Nat → Nat} (hc : ∀ i, c i < n) : ∃ a b, a < b ∧ b ≤ n ∧ c a = c b := by
  refine Classical.byContradiction fun hn => ?_
  have hnd : ((List.range (n + 1)).map c).Nodup := List.pairwise_map.2 (List.Pairwise.imp_of_mem (fun {a b} ha hb hab e => by
    have ha := List.mem_range.1 ha;have hb := List.mem_range.1 hb;rcases Nat.lt_or_gt_of_ne hab with h | h
    · exact hn ⟨a, b, h, by omega, e⟩
    · exact hn ⟨b, a, h, by omega, e.symm⟩) List.nodup_range)
  have := ZbJ hnd (m := List.range n) fun x hx => by
    obtain ⟨i, _, rfl⟩ := List.mem_map.1 hx;exact List.mem_range.2 (hc i)
  rw [List.length_map, List.length_range, List.length_range] at this;omega
theorem mod_end {j L : Nat} (e : j % L + 1 = L) : (j + 1) % L = 0 := by rw [← Nat.mod_add_mod, e, Nat.mod_self]
theorem mod_mid {j L : Nat} (_h : 0 < L) (e : j % L + 1 < L) : (j + 1) % L = j % L + 1 := by rw [← Nat.mod_add_mod, Nat.mod_eq_of_lt e]
theorem cyc_some {g : List (List Nat)} (hg : GT g) (hl : (ordG g idK).length ≠ g.length) {best : Nat} {out : List Nat} (h : CI g g.length best out) : out ≠ [] := by
  obtain ⟨h1, h2⟩ := ordG_spec g idK;obtain ⟨hnd, hlt⟩ := grd_nodup h1
  obtain ⟨l, hle⟩ : ∃ l, ordG g idK = l := ⟨_, rfl⟩
  rw [hle] at h1 h2 hnd hlt hl;have hle2 : l.length ≤ g.length := by have := ordG_len g idK; rwa [hle] at this
  have hex : ∃ v, v < g.length ∧ v ∉ l := Classical.byContradiction fun hn => hl (Nat.le_antisymm hle2 (by
    have := ZbJ (List.nodup_range (n := g.length)) (m := l) fun x hx => Classical.byContradiction fun hx2 => hn ⟨x, List.mem_range.1 hx, hx2⟩
    rwa [List.length_range] at this))
  have hpred : ∀ v : { v : Nat // v < g.length ∧ v ∉ l }, ∃ u : { v : Nat // v < g.length ∧ v ∉ l }, v.1 ∈ sucs g u.1 := fun v => Classical.byContradiction fun hn => h2 v.1 ⟨v.2.1, v.2.2, fun k hk hkn hm => hn ⟨⟨k, hk, hkn⟩, hm⟩⟩;obtain ⟨v0, hv0⟩ := hex
  let step : { v : Nat // v < g.length ∧ v ∉ l } → { v : Nat // v < g.length ∧ v ∉ l } := fun v => Classical.choose (hpred v)
  let ch : Nat → { v : Nat // v < g.length ∧ v ∉ l } := fun i => Nat.rec ⟨v0, hv0⟩ (fun _ v => step v) i
  have hch : ∀ i, (ch i).1 ∈ sucs g (ch (i + 1)).1 := fun i => Classical.choose_spec (hpred (ch i));obtain ⟨a, b, hab, hbn, he⟩ := pigeon (n := g.length) (c := fun i => (ch i).1) fun i => (ch i).2.1;have he : (ch a).1 = (ch b).1 := he
  obtain ⟨L, hL⟩ : ∃ L, b - a = L := ⟨_, rfl⟩
  have hL0 : 0 < L := by omega
  let c : Nat → Nat := fun j => (ch (a + j % L)).1
  have hcl : ∀ j, c j < g.length := fun j => (ch (a + j % L)).2.1
  have hce : ∀ j, c j ∈ sucs g (c (j + 1)) := fun j => by
    have hm := Nat.mod_lt j hL0;show (ch (a + j % L)).1 ∈ sucs g (ch (a + (j + 1) % L)).1
    by_cases e : j % L + 1 = L
    · have e2 : (j + 1) % L = 0 := mod_end e;rw [e2, Nat.add_zero, he, show b = a + j % L + 1 by omega];exact hch _
    · have e2 : (j + 1) % L = j % L + 1 := mod_mid hL0 (by omega);rw [e2];exact hch _
  have hcp : ∀ j, c (j + L) = c j := fun j => by show (ch (a + (j + L) % L)).1 = _; rw [Nat.add_mod_right]
  have hrh : ∀ i k, Rh (sucs g) (c (i + k)) (c i) := by
    intro i k
    induction k with
    | zero => exact .refl _
    | succ k ih => exact (Rh.one (hce (i + k))).trans ih
  have hper : ∀ m j, c (j + L * m) = c j := by
    intro m
    induction m with
    | zero => intro j; rfl
    | succ m ih => intro j; rw [Nat.mul_succ, ← Nat.add_assoc, hcp, ih]
  obtain ⟨s, ⟨m, hms⟩, hmin⟩ := exmin (fun x => ∃ m, c m = x) (c 0) (c 0) ⟨0, rfl⟩ (Nat.le_refl _);have hsl : s < g.length := hms ▸ hcl m
  have hmut : ∀ k, noC g (c (m + k)) = noC g s := fun k => by
    refine ((cn_ex g hg).scc _ _ (hcl _) hsl).2 ⟨hms ▸ hrh m k, ?_⟩;have := hrh (m + k) (L * (m + k) - k);rw [show m + k + (L * (m + k) - k) = m + L * (m + k) by have : k ≤ L * (m + k) := Nat.le_trans (by omega) (Nat.le_mul_of_pos_left _ hL0); omega, hper, hms] at this;exact this
  have hwk : ∀ k, Wk (revG g) (okS g s) s k (c (m + k)) := by
    intro k
    induction k with
    | zero => exact hms
    | succ k ih =>
      refine ⟨⟨hmin _ ⟨_, rfl⟩, ?_⟩, c (m + k), ih, (revG_mem (hcl _)).2 ⟨hcl _, hce (m + k)⟩⟩;rw [ZbP (hcl _), ZbP hsl];exact hmut (k + 1)
  intro hne;have hb := h.none hne;have := hwk L;rw [hcp, hms] at this;exact h.no s hsl L (by omega) (by omega) this
end Go.Proofs.Ytgdppeobgefogaa
/- 'girolaw31.SccReverse': for every input the law returns true. -/
namespace Go.Proofs.Ytgdppeobgefogaa
open Go.RowKit
end Go.Proofs.Ytgdppeobgefogaa
