/- Layer 31: small graphs; the reference's Reverse. -/
import Derived.Test.YtgdppeobgefogaaMg18
namespace Go.Proofs.Ytgdppeobgefogaa
open Go.RowKit
def clN (n : Nat) (x : Int) : Nat := (Int.emod x 18446744073709551616).toNat % n
def rowC (n : Nat) (l : List Int) : List Nat := (l.take 14).map (clN n)
def smlG (g : List (List Int)) : List (List Nat) := (g.take (min g.length 14)).map (rowC (min g.length 14))
theorem wrapU (x : Int) : IntKind.u64.wrap x = Int.emod x 18446744073709551616 := rfl
theorem clN_eq {n : Nat} (h0 : 0 < n) (hn : n ≤ 14) (x : Int) : IntKind.i64.wrap (Int.tmod (IntKind.u64.wrap x) (n : Int)) = (clN n x : Int) := by
  have h1 : 0 ≤ Int.emod x 18446744073709551616 := Int.emod_nonneg _ (by decide)
  obtain ⟨y, hy⟩ : ∃ y : Nat, Int.emod x 18446744073709551616 = (y : Int) := ⟨_, (Int.toNat_of_nonneg h1).symm⟩
  rw [wrapU];unfold clN;rw [hy, Int.toNat_natCast];have e : Int.tmod (y : Int) (n : Int) = ((y % n : Nat) : Int) := rfl;rw [e];have := Nat.mod_lt y h0;exact IntWalk.i64_in _ (by omega)
theorem smlG_len (g : List (List Int)) : (smlG g).length = min g.length 14 := by simp [smlG] <;> omega
theorem smlG_gt (g : List (List Int)) : GT (smlG g) := by
  have hl := smlG_len g
  have hrow : ∀ l ∈ smlG g, l.length ≤ 14 := fun l hl => by
    obtain ⟨m, _, rfl⟩ := List.mem_map.1 hl;unfold rowC; rw [List.length_map, List.length_take]; omega
  refine ⟨⟨by omega, fun l hl => by have := hrow l hl; omega, fun l hlm x hx => ?_⟩, ?_⟩
  · have h0 : 0 < (smlG g).length := List.length_pos_of_mem hlm;obtain ⟨m, _, rfl⟩ := List.mem_map.1 hlm;obtain ⟨y, _, rfl⟩ := List.mem_map.1 hx;rw [hl] at h0 ⊢;exact Nat.mod_lt _ h0
  · have key : ∀ m, m ≤ (smlG g).length → totG (smlG g) m ≤ m * 14 := by
      intro m
      induction m with
      | zero => intro _; exact Nat.zero_le _
      | succ m ih =>
        intro hm;have h1 := ih (by omega);have h2 := hrow (sucs (smlG g) m) (by rw [sucs_get (by omega)]; exact List.getElem_mem _);have h3 : totG (smlG g) (m + 1) = totG (smlG g) m + (sucs (smlG g) m).length := by unfold totG; rw [List.range_succ, List.map_append, List.sum_append]; simp
        omega
    have := key _ (Nat.le_refl _);omega
theorem take_min {α : Type} {l : List α} {j m : Nat} (h : j = min l.length m) : l.take j = l.take m := by
  subst h;rcases Nat.le_total l.length m with h | h
  · rw [Nat.min_eq_left h, List.take_of_length_le (Nat.le_refl _), List.take_of_length_le h]
  · rw [Nat.min_eq_right h]
set_option maxRecDepth 100000 in
theorem small_p (g : List (List Int)) (hg : g.length ≤ 140737488355328) (hl : ∀ l ∈ g, l.length ≤ 140737488355328) : PCalls Try.prog 13 [.d (grI g), .d (boolD true)] (grD (smlG g)) := by
  obtain ⟨n, hn⟩ : ∃ n, min g.length 14 = n := ⟨_, rfl⟩
  have hn14 : n ≤ 14 := by omega
  unfold smlG;rw [hn];refine ZaY Try.func13 rfl rfl Try.ntmps13 rfl rfl rfl fun F hF => (Zag (Zae (goAs rfl rfl (Zaf (Zag ?_)))));refine Zae (goMv rfl rfl (Zab.go (Zay rfl (List.length_map ..) Try.underlying22 rfl) (Zab.go (st_min rfl rfl ((show (if (14 : Int) < (g.length : Int) then (14 : Int) else (g.length : Int)) = (n : Int) by split <;> omega)) rfl) (goAs rfl rfl (Zaf (Zag (Zae (goAs rfl rfl ?_))))))));refine Zaf (Zag (Zag (Zae (goAs rfl rfl (Zaf (Zau (a_adopt 6 2 sl22 rfl rfl rfl rfl (ZaO (α := Nat × List (List Nat)) (fun q => ⟨55, [(0, .d (grI g)), (1, .d (boolD true)), (5, (.d (natD n))), (6, (.own 2 0 q.2.length)), (7, (.d (natD q.1)))], [(2, [.rowD 25 1 (q.2.map natsD)])]⟩) (fun q => q.1 ≤ n ∧ q.2 = (g.take q.1).map (rowC n)) (fun q => n - q.1) ((0, [])) (⟨Nat.zero_le _, rfl⟩) (Zao hF [2] rfl rfl ⟨rfl, rfl, rfl, rfl, rfl, trivial⟩) ?_))))))));rintro ⟨k, o⟩ ⟨hk, ho⟩;dsimp only at hk ho ⊢;refine Zag (Zag (Zae (goMv rfl rfl (goMv rfl rfl ?_))))
  first | refine Zab.go (ZaR rfl rfl rfl) ?_ | refine Zab.go (ZaM rfl rfl rfl) ?_
  refine Zaf ?_
  first | refine ZaQ rfl (fun h16 => ?_) (fun h16 => ?_) | refine ZaF rfl (fun h16 => ?_) (fun h16 => ?_)
  · refine Zax (Zag (Zau (Zag ?_)));have hkn : k < n := ZaW h16;have hkg : k < g.length := by omega
    have hll := hl _ (List.getElem_mem hkg);have hol : o.length = k := by rw [ho, List.length_map, List.length_take]; omega
    refine Zae (goAs rfl rfl ?_);refine Zaf (Zag (Zag (Zae (goAs rfl rfl (Zaf (Zau (a_adopt 8 1 sl25 rfl rfl rfl rfl (ZaO (α := Nat × List Nat) (fun q => ⟨55, [(0, .d (grI g)), (1, .d (boolD true)), (5, (.d (natD n))), (6, (.own 2 0 o.length)), (7, (.d (natD k))), (8, (.own 1 0 q.2.length)), (9, (.d (natD q.1)))], [(1, [.rowD 3 1 (q.2.map natD)]), (2, [.rowD 25 1 (o.map natsD)])]⟩) (fun q => q.1 ≤ min g[k].length 14 ∧ q.2 = (g[k].take q.1).map (clN n)) (fun q => g[k].length - q.1) ((0, [])) (⟨Nat.zero_le _, rfl⟩) (Zao hF [1, 2] rfl rfl ⟨rfl, rfl, rfl, rfl, rfl, rfl, rfl, trivial⟩) ?_))))))));rintro ⟨j, r⟩ ⟨hj, hr⟩;dsimp only at hj hr ⊢;refine Zag (Zag (Zae (goMv rfl rfl (goMv rfl rfl (goMv rfl rfl ?_)))))
    first | refine Zab.go (Zam (k) rfl rfl (rfl) (getgI hkg) Try.underlying22 rfl sz25 rfl) ?_ | refine Zab.go (Zal (k) rfl rfl (rfl) (getgI hkg) rfl Try.underlying22 sz25 rfl) ?_
    first | refine Zab.go (Zai rfl rfl on25 rfl) ?_ | refine Zab.go (Zak rfl rfl rfl on25 rfl) ?_ | refine Zab.go (Zaj rfl rfl (rfl) rfl on25 rfl) ?_
    refine Zab.go (Zay rfl (List.length_map ..) Try.underlying25 rfl) ?_
    first | refine Zab.go (ZaR rfl rfl rfl) ?_ | refine Zab.go (ZaM rfl rfl rfl) ?_
    refine goMv rfl rfl ?_
    first | refine Zbv 26 rfl (fun h26 => ?_) (fun h26 => ?_) | refine Zbo 26 rfl (fun h26 => ?_) (fun h26 => ?_)
    · refine ZaH rfl rfl rfl (goMv rfl rfl (ZaH rfl rfl rfl ?_))
      first | refine Zab.go (ZaR rfl rfl rfl) ?_ | refine Zab.go (ZaM rfl rfl rfl) ?_
      refine Zab.go (Za4 rfl rfl rfl rfl) (Zaf ?_)
      first | refine ZaQ rfl (fun h29 => ?_) (fun h29 => ?_) | refine ZaF rfl (fun h29 => ?_) (fun h29 => ?_)
      · refine Zax (Zag (Zau (Zag ?_)));have hjl : j < g[k].length := by have := h26; omega
        have hrl : r.length = j := by rw [hr, List.length_map, List.length_take]; omega
        refine Zae (goMv rfl rfl (goMv rfl rfl ?_))
        first | refine Zab.go (Zam (k) rfl rfl (rfl) (getgI hkg) Try.underlying22 rfl sz25 rfl) ?_ | refine Zab.go (Zal (k) rfl rfl (rfl) (getgI hkg) rfl Try.underlying22 sz25 rfl) ?_
        first | refine Zab.go (Zai rfl rfl on25 rfl) ?_ | refine Zab.go (Zak rfl rfl rfl on25 rfl) ?_ | refine Zab.go (Zaj rfl rfl (rfl) rfl on25 rfl) ?_
        refine goMv rfl rfl ?_
        first | refine Zab.go (Zam (j) rfl rfl (rfl) (getI hjl) Try.underlying25 rfl sz3 rfl) ?_ | refine Zab.go (Zal (j) rfl rfl (rfl) (getI hjl) rfl Try.underlying25 sz3 rfl) ?_
        first | refine Zab.go (Zai rfl rfl on3 rfl) ?_ | refine Zab.go (Zak rfl rfl rfl on3 rfl) ?_ | refine Zab.go (Zaj rfl rfl (rfl) rfl on3 rfl) ?_
        refine goAs rfl rfl (Zaf ?_);refine Zag (Zag (Zae (goMv rfl rfl (Zaf (a_true rfl (rfl) (Zae (goMv rfl rfl (Zab.go (st_conv rfl Try.underlying3 Try.underlying55 (rfl) rfl) ?_))))))));refine goMv rfl rfl (Zab.go (st_conv rfl Try.underlying3 Try.underlying55 (IntWalk.u64_in _ (by omega)) rfl) (Zab.go (st_rem rfl rfl (by omega) (rfl) rfl) (Zab.go (st_conv rfl Try.underlying55 Try.underlying3 (clN_eq (by omega) hn14 g[k][j]) rfl) (goAs rfl rfl (Zaf (Zae (goMv rfl rfl (goMv rfl rfl ?_))))))));refine Zap.go (ZaK 21 sl25 rfl rfl rfl rfl rfl rfl rfl rfl) (Zap.go (ZbQ (emb := natD) r [clN n g[k][j]] rfl rfl rfl rfl rfl rfl rfl rfl sl25 (by show (r.length + 1) * 8 ≤ _; omega) rfl rfl rfl rfl) (goAs rfl rfl (Zaf (Zae (goMv rfl rfl (Zab.go (ZaG rfl rfl (IntWalk.i64_in _ (by omega)) rfl) (goAs rfl rfl (Zaf ?_))))))));exact ⟨(j + 1, r ++ [clN n g[k][j]]), ⟨by show j + 1 ≤ _; omega, by rw [hr, List.take_succ_eq_append_getElem hjl, List.map_append]; rfl⟩, by show g[k].length - (j + 1) < g[k].length - j; omega, Zao hF [1, 2] rfl (rfl) ⟨rfl, rfl, rfl, rfl, rfl, rfl, rfl, trivial⟩⟩
      · refine ZaI ?_;have hre : r = rowC n g[k] := by rw [hr, take_min (m := 14) (by omega)]; rfl
        subst hre;refine Zbj (emb := natD) 8 1 (rowC n g[k]) rfl rfl rfl rfl rfl rfl rfl (Zae (goMv rfl rfl (goMv rfl rfl ?_)));refine Zap.go (ZaK 22 sl22 rfl rfl rfl rfl rfl rfl rfl rfl) (Zap.go (ZbQ (emb := natsD) o [rowC n g[k]] rfl rfl rfl rfl rfl rfl rfl rfl sl22 (by show (o.length + 1) * 24 ≤ _; omega) rfl rfl rfl rfl) (goAs rfl rfl (Zaf (Zae (goMv rfl rfl (Zab.go (ZaG rfl rfl (IntWalk.i64_in _ (by omega)) rfl) (goAs rfl rfl (Zaf ?_))))))));exact ⟨(k + 1, o ++ [rowC n g[k]]), ⟨hkn, by rw [ho, List.take_succ_eq_append_getElem hkg, List.map_append]; rfl⟩, by show n - (k + 1) < n - k; omega, Zao hF [2] rfl (rfl) ⟨rfl, rfl, rfl, rfl, rfl, trivial⟩⟩
    · refine ZaC rfl rfl rfl rfl (ZaC rfl rfl rfl rfl (Zab.go (Zbb rfl rfl rfl rfl) (Zaf (Zbm rfl rfl (ZaI ?_)))));have hre : r = rowC n g[k] := by rw [hr, take_min (m := 14) (by omega)]; rfl
      subst hre;refine Zbj (emb := natD) 8 1 (rowC n g[k]) rfl rfl rfl rfl rfl rfl rfl (Zae (goMv rfl rfl (goMv rfl rfl ?_)));refine Zap.go (ZaK 22 sl22 rfl rfl rfl rfl rfl rfl rfl rfl) (Zap.go (ZbQ (emb := natsD) o [rowC n g[k]] rfl rfl rfl rfl rfl rfl rfl rfl sl22 (by show (o.length + 1) * 24 ≤ _; omega) rfl rfl rfl rfl) (goAs rfl rfl (Zaf (Zae (goMv rfl rfl (Zab.go (ZaG rfl rfl (IntWalk.i64_in _ (by omega)) rfl) (goAs rfl rfl (Zaf ?_))))))));exact ⟨(k + 1, o ++ [rowC n g[k]]), ⟨hkn, by rw [ho, List.take_succ_eq_append_getElem hkg, List.map_append]; rfl⟩, by show n - (k + 1) < n - k; omega, Zao hF [2] rfl (rfl) ⟨rfl, rfl, rfl, rfl, rfl, trivial⟩⟩
  · refine ZaI (Zag ?_);have hke : k = n := by have := h16; omega
    subst hke;refine Zbj (emb := natsD) 6 2 o rfl rfl rfl rfl rfl rfl rfl ?_;rw [ho];refine Zae (goMv rfl rfl (goAs rfl rfl (Zaf (Za5 ?_))));exact ⟨_, [], [], ZaT rfl, rfl, rfl, rfl, rfl⟩
end Go.Proofs.Ytgdppeobgefogaa
/- Layer 31: the reference's Reverse; the components of the reversed graph. -/
namespace Go.Proofs.Ytgdppeobgefogaa
open Go.RowKit
end Go.Proofs.Ytgdppeobgefogaa
/- Layer 31: the reference's Order. -/
namespace Go.Proofs.Ytgdppeobgefogaa
open Go.RowKit
abbrev rowB (n : Nat) (out : List Nat) : List D := (List.range n).map fun v => boolD (decide (v ∈ out))
theorem rowB_get {n i : Nat} {out : List Nat} (h : i < n) : (rowB n out)[i]? = some (boolD (decide (i ∈ out))) := by simp [h]
theorem rowB_len (n : Nat) (out : List Nat) : (rowB n out).length = n := by simp
theorem rowB_set {n i : Nat} {out : List Nat} : (rowB n out).set i (boolD true) = rowB n (out ++ [i]) :=
  row_set (fun j _ hne => congrArg boolD (decide_eq_decide.2 ⟨fun h => List.mem_append_left _ h, fun h => (List.mem_append.1 h).elim id fun e => (hne (List.mem_singleton.1 e)).elim⟩)) (by rw [decide_eq_true (List.mem_append_right _ (List.mem_singleton.2 rfl))])
theorem repB (n : Nat) : List.replicate n (D.raw (.bool false)) = rowB n [] := by
  refine List.ext_getElem (by simp) fun j h1 h2 => ?_
  simp
def FR (g : List (List Nat)) (out : List Nat) (i k : Nat) : Prop := i ∉ out ∧ ∀ a, a < k → a ∈ out ∨ i ∉ sucs g a
noncomputable instance (g : List (List Nat)) (out : List Nat) (i k : Nat) : Decidable (FR g out i k) := Classical.propDecidable _
structure LA (g : List (List Nat)) (out : List Nat) (m : Nat) (o : Option Nat) : Prop where
  nn : o = none → ∀ i, m ≤ i → ¬ avail g out i
  so : ∀ x, o = some x → avail g out x ∧ ∀ i, m ≤ i → avail g out i → x ≤ i
end Go.Proofs.Ytgdppeobgefogaa
/- Layer 31: an order of all nodes exists if and only if there is no cycle. Plain laws. -/
namespace Go.Proofs.Ytgdppeobgefogaa
open Go.RowKit
end Go.Proofs.Ytgdppeobgefogaa
