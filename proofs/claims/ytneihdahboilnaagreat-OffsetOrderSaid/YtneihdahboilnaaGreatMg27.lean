/- Layer 30: the reference: what a room lacks, what blocks an item. -/
import Derived.Test.YtneihdahboilnaaGreatMg26
namespace Go.Proofs.YtneihdahboilnaaGreat
open Go.RowKit

def overL (its : List Itm) (x : Roo) (l : List Int) : Int := max x.n 0 + ((its.filter fun i => decide (i.id ∈ l)).map fun i => dltE i x.r).sum
def blkR (its : List Itm) (l : List Int) (id : Int) (x : Roo) : Option Exc := if id ∈ qIds its x.r then (((qIds its x.r).takeWhile fun a => decide (a ≠ id)).find? fun a => decide (a ∉ l)).map fun a => ⟨id, 1, x.r, a⟩ else none
def blockR (p : Prb) (l : List Int) (id : Int) : Option Exc := match (rosS p).findSome? (blkR (sortO p.it) l id) with
  | some e => some e
  | none => ((itmOf p id).af.find? fun a => decide (a ∉ l)).map fun a => ⟨id, 2, rscZ, a⟩
end Go.Proofs.YtneihdahboilnaaGreat
/- Layer 30: the reference: the next exclusion. -/
namespace Go.Proofs.YtneihdahboilnaaGreat
open Go.RowKit

end Go.Proofs.YtneihdahboilnaaGreat
/- Layer 30: the reference's removal procedure. -/
namespace Go.Proofs.YtneihdahboilnaaGreat
open Go.RowKit

end Go.Proofs.YtneihdahboilnaaGreat
/- Layer 30: the removal procedure and the reference say the same. Plain laws. -/
namespace Go.Proofs.YtneihdahboilnaaGreat
open Go.RowKit

end Go.Proofs.YtneihdahboilnaaGreat
/- Layer 30: the next exclusion of the network is the reference's. Plain laws. -/
namespace Go.Proofs.YtneihdahboilnaaGreat
open Go.RowKit

structure PV (p : Prb) (ros : List Roo) (its : List Itm) : Prop where
  e : prbE p = 0
  f : FewP p
  s : SmO ros its
  hr : rosS p = ros
  hi : sortO p.it = its
  v : ∀ x ∈ its, checkE x = 0
  w : ∀ x ∈ ros, validE x.r = 0
  up : ros.Pairwise fun a b => cmpR a.r b.r < 0
end Go.Proofs.YtneihdahboilnaaGreat
/- Layer 30: what blocks an item, in two words. Plain laws. -/
namespace Go.Proofs.YtneihdahboilnaaGreat
open Go.RowKit

end Go.Proofs.YtneihdahboilnaaGreat
/- Layer 30: the removal procedure is the reference's. Plain laws. -/
namespace Go.Proofs.YtneihdahboilnaaGreat
open Go.RowKit

end Go.Proofs.YtneihdahboilnaaGreat
/- Layer 30: the law's helpers. -/
namespace Go.Proofs.YtneihdahboilnaaGreat
open Go.RowKit

def FewQ (p : Prb) (n : Nat) : Prop := p.it.length ≤ n ∧ p.ro.length ≤ 30 ∧ ∀ i ∈ p.it, i.po.length ≤ 8 ∧ i.pa.length ≤ 8 ∧ i.af.length ≤ 8
instance (p : Prb) (n : Nat) : Decidable (FewQ p n) := inferInstanceAs (Decidable (_ ∧ _ ∧ ∀ i ∈ p.it, _))
theorem few_of {p : Prb} {n : Nat} (h : FewQ p n) (hn : n ≤ 30) : FewP p := ⟨by have := h.1; omega, by have := h.2.1; omega, h.2.2⟩
set_option maxRecDepth 100000 in
theorem few_p (p : Prb) (n : Nat) (hn : n ≤ 1000) : PCalls Tryz.prog 13 [.d (prbD p), .d (intD (n : Int))] (boolD (decide (FewQ p n))) := by
  refine ZaI Tryz.func13 rfl rfl Tryz.ntmps13 rfl rfl rfl fun F hF => (Zag (Zab (Zam.go (ZaS 1 rfl rfl rfl rfl rfl rfl rfl) (Zaa.go (Zad rfl rfl) (Zaf (Zag ?_))))));refine Zag (Zab (Zaa.go (Zai rfl ZaU rfl rfl rfl) (Zaa.go (Zaj rfl rfl rfl on23 rfl) (Zaa.go (ZaD rfl Tryz.underlying23 rfl) (Zaa.go (Zac rfl rfl) (Zaa.go (ZbJ rfl rfl rfl) (Zaa.go (Zac rfl rfl) (Za3 11 rfl (fun h11 => ?_) (fun h11 => ?_)))))))))
  · refine Zak rfl rfl rfl rfl (Zak rfl rfl rfl rfl (Zak rfl rfl rfl rfl ?_));refine Zak rfl rfl rfl rfl (Zaa.go (ZaB rfl rfl rfl rfl) (Zaf (ZaW rfl rfl (Zag (Zab (Zaa.go (Zad rfl rfl) (Zaf (Zav ?_))))))));exact ⟨_, [], [], Zaq rfl, rfl, rfl, retF (fun h => by have h1 := h.1; have h2 := h.2.1; omega), rfl⟩
  · refine Zal rfl rfl rfl (Zaa.go (Zai rfl ZaL rfl rfl rfl) ?_);refine Zal rfl rfl rfl (Zaa.go (Zaj rfl rfl rfl on22 rfl) (Zal rfl rfl rfl (Zaa.go (ZaD rfl Tryz.underlying22 rfl) (Zal rfl rfl rfl (Zaa.go (ZbJ rfl rfl rfl) (Zaa.go (ZaH rfl rfl rfl rfl) (Zaf (ZaK rfl (fun h16 => ?_) (fun h16 => ?_)))))))))
    · refine Zag (Zab (Zaa.go (Zad rfl rfl) (Zaf (Zav ?_))));exact ⟨_, [], [], Zaq rfl, rfl, rfl, retF (fun h => by have h1 := h.1; have h2 := h.2.1; omega), rfl⟩
    · refine Zas (Zag (Zag (Zab (Zaa.go (Zad rfl rfl) (Zaf (Zat (ZaO (α := Nat) (fun k => ⟨52, [(2, (.ptr 1 0 0)), (5, (.d (intD (k : Int))))], [(1, [prbB2 25 p])]⟩) (fun k => k ≤ p.it.length ∧ ∀ i ∈ p.it.take k, i.po.length ≤ 8 ∧ i.pa.length ≤ 8 ∧ i.af.length ≤ 8) (fun k => p.it.length - k) (0) (⟨Nat.zero_le _, by simp⟩) (Zaw hF [1] rfl rfl ⟨rfl, rfl, trivial⟩) ?_)))))));rintro k ⟨hk0, hk⟩;refine Zag ?_;refine Zag (Zab (Zaa.go (Zac rfl rfl) (Zaa.go (Zai rfl ZaU rfl rfl rfl) (Zaa.go (Zaj rfl rfl rfl on23 rfl) (Zaa.go (ZaD rfl Tryz.underlying23 rfl) (Zaa.go (ZaM rfl rfl rfl) (Zaf (ZaK rfl (fun h21 => ?_) (fun h21 => ?_)))))))))
      · have hk1 : k < p.it.length := ZaP h21;refine Zas (Zag (Zat (Zag (Zab (Zaa.go (Zai rfl ZaU rfl rfl rfl) ?_)))));refine Zaa.go (Zaj rfl rfl rfl on23 rfl) (Zaa.go (Zac rfl rfl) (Zaa.go (Zay (k) rfl rfl (rfl) (getm hk1) Tryz.underlying23 rfl sz64 rfl) (Zaa.go (Zau rfl Zbg rfl rfl rfl) (Zaa.go (Zaz rfl rfl on61 rfl) (Zaa.go (ZaD rfl Tryz.underlying61 rfl) (Zaa.go (ZbJ rfl rfl rfl) (Zaa.go (Zac rfl rfl) (Za3 32 rfl (fun h32 => ?_) (fun h32 => ?_)))))))))
        · refine Zak rfl rfl rfl rfl (Zak rfl rfl rfl rfl (Zak rfl rfl rfl rfl (Zak rfl rfl rfl rfl (Zak rfl rfl rfl rfl (Zak rfl rfl rfl rfl (Zak rfl rfl rfl rfl (Zak rfl rfl rfl rfl ?_)))))));refine Zaa.go (ZaB rfl rfl rfl rfl) (Zaa.go (Zac rfl rfl) (Zak rfl rfl rfl rfl (Zak rfl rfl rfl rfl (Zak rfl rfl rfl rfl (Zak rfl rfl rfl rfl (Zak rfl rfl rfl rfl (Zak rfl rfl rfl rfl (Zak rfl rfl rfl rfl ?_))))))));refine Zak rfl rfl rfl rfl (Zaa.go (ZaB rfl rfl rfl rfl) (Zaf (ZaW rfl rfl (Zag (Zab (Zaa.go (Zad rfl rfl) (Zaf (Zav ?_))))))));exact ⟨_, [], [], Zaq rfl, rfl, rfl, retF (fun h => by have h1 := h.2.2 _ (List.getElem_mem hk1); omega), rfl⟩
        · refine Zal rfl rfl rfl ?_;refine Zaa.go (Zai rfl ZaU rfl rfl rfl) (Zal rfl rfl rfl (Zaa.go (Zaj rfl rfl rfl on23 rfl) (Zal rfl rfl rfl (Zaa.go (Zac rfl rfl) (Zal rfl rfl rfl (Zaa.go (Zay (k) rfl rfl (rfl) (getm hk1) Tryz.underlying23 rfl sz64 rfl) (Zal rfl rfl rfl (Zaa.go (Zau rfl Za8 rfl rfl rfl) ?_))))))));refine Zal rfl rfl rfl (Zaa.go (Zaz rfl rfl on62 rfl) (Zal rfl rfl rfl (Zaa.go (ZaD rfl Tryz.underlying62 rfl) (Zal rfl rfl rfl (Zaa.go (ZbJ rfl rfl rfl) (Zaa.go (ZaH rfl rfl rfl rfl) (Zaa.go (Zac rfl rfl) (Za3 42 rfl (fun h42 => ?_) (fun h42 => ?_)))))))))
          · refine Zak rfl rfl rfl rfl (Zak rfl rfl rfl rfl (Zak rfl rfl rfl rfl (Zak rfl rfl rfl rfl (Zak rfl rfl rfl rfl (Zak rfl rfl rfl rfl (Zak rfl rfl rfl rfl ?_))))));refine Zak rfl rfl rfl rfl (Zaa.go (ZaB rfl rfl rfl rfl) (Zaf (ZaW rfl rfl (Zag (Zab (Zaa.go (Zad rfl rfl) (Zaf (Zav ?_))))))));exact ⟨_, [], [], Zaq rfl, rfl, rfl, retF (fun h => by have h1 := h.2.2 _ (List.getElem_mem hk1); omega), rfl⟩
          · refine Zal rfl rfl rfl ?_;refine Zaa.go (Zai rfl ZaU rfl rfl rfl) (Zal rfl rfl rfl (Zaa.go (Zaj rfl rfl rfl on23 rfl) (Zal rfl rfl rfl (Zaa.go (Zac rfl rfl) (Zal rfl rfl rfl (Zaa.go (Zay (k) rfl rfl (rfl) (getm hk1) Tryz.underlying23 rfl sz64 rfl) (Zal rfl rfl rfl (Zaa.go (Zau rfl Zbk rfl rfl rfl) ?_))))))));refine Zal rfl rfl rfl (Zaa.go (Zaz rfl rfl on28 rfl) (Zal rfl rfl rfl (Zaa.go (ZaD rfl Tryz.underlying28 rfl) (Zal rfl rfl rfl (Zaa.go (ZbJ rfl rfl rfl) (Zaa.go (ZaH rfl rfl rfl rfl) (Zaf (ZaK rfl (fun h51 => ?_) (fun h51 => ?_)))))))))
            · refine Zag (Zab (Zaa.go (Zad rfl rfl) (Zaf (Zav ?_))));exact ⟨_, [], [], Zaq rfl, rfl, rfl, retF (fun h => by have h1 := h.2.2 _ (List.getElem_mem hk1); omega), rfl⟩
            · refine Zas (Zab (Zaa.go (Zac rfl rfl) (Zaa.go (ZaG rfl rfl (wrapS (k + 1) (by omega)) rfl) (Zaa.go (Zad rfl rfl) (Zaf ?_)))));exact ⟨k + 1, ⟨by show k + 1 ≤ _; omega, by rw [List.take_succ_eq_append_getElem hk1]; intro i hi; rcases List.mem_append.1 hi with hi | hi; exact hk i hi; rw [List.mem_singleton.1 hi]; omega⟩, by show p.it.length - (k + 1) < p.it.length - k; omega, Zaw hF [1] rfl (rfl) ⟨rfl, rfl, trivial⟩⟩
      · refine ZaQ (Zag (Zab (Zaa.go (Zad rfl rfl) (Zaf (Zav ?_)))));exact ⟨_, [], [], Zaq rfl, rfl, rfl, retT ⟨by omega, by omega, fun i hi => hk i (by rw [List.take_of_length_le (by have h := h21; omega)]; exact hi)⟩, rfl⟩
set_option maxRecDepth 100000 in
theorem same30_p (l m : List Int) (hl : l.length ≤ 100000) (hm : m.length ≤ 100000) : PCalls Tryz.prog 19 [.d (.sl none (l.map intD)), .d (.sl none (m.map intD))] (boolD (decide (l = m))) := by
  refine ZaI Tryz.func19 rfl rfl Tryz.ntmps19 rfl rfl rfl fun F hF => (Zag (Zab (Zaa.go (Zad rfl rfl) (Zaf (Zag ?_)))));refine Zag (Zab (Zaa.go (Zac rfl rfl) (Zaa.go (ZaD rfl Tryz.underlying28 rfl) (Zaa.go (Zac rfl rfl) (Zaa.go (ZaD rfl Tryz.underlying28 rfl) (Zaa.go (Za0 rfl rfl rfl) (Zaf (ZaK rfl (fun h10 => ?_) (fun h10 => ?_)))))))))
  · refine Zag (Zab (Zaa.go (Zad rfl rfl) (Zaf (Zav ?_))));exact ⟨_, [], [], Zaq rfl, rfl, rfl, retF (fun h => by have h1 := congrArg List.length h; have h := h10; omega), rfl⟩
  · refine Zas (Zag (Zag ?_));have hlen : l.length = m.length := by have h := h10; omega
    refine Zab (Zaa.go (Zad rfl rfl) (Zaf (Zat (ZaO (α := Nat) (fun k => ⟨26, [(0, .d (.sl none (l.map intD))), (1, .d (.sl none (m.map intD))), (5, (.d (intD (k : Int))))], []⟩) (fun k => k ≤ l.length ∧ l.take k = m.take k) (fun k => l.length - k) (0) (⟨Nat.zero_le _, by simp⟩) (Zaw hF [] rfl rfl ⟨rfl, rfl, rfl, trivial⟩) ?_))));rintro k ⟨hk0, hk⟩;refine Zag (Zag (Zab (Zaa.go (Zac rfl rfl) (Zaa.go (Zac rfl rfl) (Zaa.go (ZaD rfl Tryz.underlying28 rfl) (Zaa.go (ZaM rfl rfl rfl) (Zaf (ZaK rfl (fun h14 => ?_) (fun h14 => ?_)))))))))
    · have hk1 : k < l.length := ZaP h14;refine Zas (Zag (Zat (Zag ?_)));have hk2 : k < m.length := by omega
      refine Za2 [[], [], [0, 1], [0, 1, 2], [], [], [4, 5], [4, 5, 6], [0, 1, 2, 3, 4, 5, 6, 7]] mixed rfl (dws (Zah [0] [] rfl rfl (fun _ => Zae (Zac rfl rfl)) (Zah [5] [] rfl rfl (fun _ => Zae (Zac rfl rfl)) (Zah [17, 18] [] rfl rfl (fun _ => Zae (Zay (k) rfl rfl (rfl) (getm hk1) Tryz.underlying28 rfl sz3 rfl)) ?_))));refine Zah [19] [] rfl rfl (fun _ => Zae (Zaz rfl rfl on3 rfl)) (Zah [1] [] rfl rfl (fun _ => Zae (Zac rfl rfl)) (Zah [5] [] rfl rfl (fun _ => Zae (Zac rfl rfl)) (Zah [21, 22] [] rfl rfl (fun _ => Zae (Zay (k) rfl rfl (rfl) (getm hk2) Tryz.underlying28 rfl sz3 rfl)) (Zah [23] [] rfl rfl (fun _ => Zae (Zaz rfl rfl on3 rfl)) (dwc 8 rfl rfl rfl (dw1 9 rfl rfl (Zaa.go (Za0 rfl rfl rfl) (Zaf ⟨rfl, ?_⟩))))))));refine dwe (ZaK rfl (fun h25 => ?_) (fun h25 => ?_))
      · refine Zag (Zab (Zaa.go (Zad rfl rfl) (Zaf (Zav ?_))));exact ⟨_, [], [], Zaq rfl, rfl, rfl, retF (fun h => by subst h; exact h25 rfl), rfl⟩
      · refine Zas (Zab (Zaa.go (Zac rfl rfl) (Zaa.go (ZaG rfl rfl (wrapS (k + 1) (by omega)) rfl) (Zaa.go (Zad rfl rfl) (Zaf ?_)))));exact ⟨k + 1, ⟨by show k + 1 ≤ _; omega, by rw [List.take_succ_eq_append_getElem hk1, List.take_succ_eq_append_getElem hk2, hk, Classical.not_not.1 h25]⟩, by show l.length - (k + 1) < l.length - k; omega, Zaw hF [] rfl (rfl) ⟨rfl, rfl, rfl, trivial⟩⟩
    · refine ZaQ (Zag (Zab (Zaa.go (Zad rfl rfl) (Zaf (Zav ?_)))));exact ⟨_, [], [], Zaq rfl, rfl, rfl, retT (by have h1 := hk; rw [List.take_of_length_le (by have h := h14; omega), List.take_of_length_le (by have h := h14; omega)] at h1; exact h1), rfl⟩
end Go.Proofs.YtneihdahboilnaaGreat
/- Layer 30: the reference's feasible sets; AtRest. -/
namespace Go.Proofs.YtneihdahboilnaaGreat
open Go.RowKit

def feasR (p : Prb) (l : List Int) : Prop := (∀ id ∈ l, blockR p l id = none) ∧ ∀ x ∈ p.ro, ¬ overL p.it x l < 0
noncomputable instance (p : Prb) (l : List Int) : Decidable (feasR p l) := Classical.propDecidable _
end Go.Proofs.YtneihdahboilnaaGreat
/- Layer 30: what the removal leaves is the largest feasible set. Plain laws. -/
namespace Go.Proofs.YtneihdahboilnaaGreat
open Go.RowKit

end Go.Proofs.YtneihdahboilnaaGreat
/- Layer 30: every feasible set lies in what the removal leaves. Plain laws. -/
namespace Go.Proofs.YtneihdahboilnaaGreat
open Go.RowKit

end Go.Proofs.YtneihdahboilnaaGreat
/- Layer 30: the reference's union of all feasible sets. -/
namespace Go.Proofs.YtneihdahboilnaaGreat
open Go.RowKit

def sub30 (ids : List Int) (m k : Nat) : List Int := ((List.range k).filter fun j => decide (m / 2 ^ j % 2 = 1)).map fun j => ids.getD j 0
def InU (p : Prb) (ids : List Int) (M : Nat) (x : Int) : Prop := ∃ m, m < M ∧ feasR p (sub30 ids m ids.length) ∧ x ∈ sub30 ids m ids.length
noncomputable instance (p : Prb) (ids : List Int) (M : Nat) (x : Int) : Decidable (InU p ids M x) := Classical.propDecidable _
end Go.Proofs.YtneihdahboilnaaGreat
/- Layer 30: the union of all feasible sets is what the removal leaves. Plain laws. -/
namespace Go.Proofs.YtneihdahboilnaaGreat
open Go.RowKit

end Go.Proofs.YtneihdahboilnaaGreat
/- Layer 30: conversion of problems, the payments of the example. -/
namespace Go.Proofs.YtneihdahboilnaaGreat
open Go.RowKit

set_option maxRecDepth 100000 in
theorem ZcK (p : Prb) (h : FewP p) : PCalls Tryz.prog 16 [.d (prbD p)] (prbD p) := by
  obtain ⟨g1, g2, g3⟩ := h;refine ZaI Tryz.func16 rfl rfl Tryz.ntmps16 rfl rfl rfl fun F hF => (Zag (Zab (Zam.go (ZaS 1 rfl rfl rfl rfl rfl rfl rfl) (Zam.go (ZaX 2 zl35 rfl rfl rfl rfl) (Zaf (Zag (Zab (Zam.go (ZaX 3 zl35 rfl rfl rfl rfl) ?_))))))));refine Zaf (Zag (Zag (Zci 3 0 0 901 sl32 rfl rfl rfl rfl rfl rfl rfl (Zab (Zaa.go (Zad rfl rfl) (Zaf (Zat (ZaO (α := List Roo) (fun acc => ⟨51, [(1, (.ptr 1 0 0)), (2, (.ptr 2 0 0)), (3, (.ptr 3 0 0)), (4, (.d (intD (acc.length : Int))))], [(901, [.rowD 82 7 (acc.map rooD)]), (1, [prbB2 25 p]), (2, [.blk 35 [nilC, nilC]]), (3, [.blk 35 [.own 901 0 acc.length, nilC]])]⟩) (fun acc => acc = p.ro.take acc.length ∧ acc.length ≤ p.ro.length) (fun acc => p.ro.length - acc.length) ([]) (⟨by simp, Nat.zero_le _⟩) (Zaw hF [901, 1, 2, 3] rfl rfl ⟨rfl, rfl, rfl, rfl, trivial⟩) ?_))))))));rintro acc ⟨hI, hk0⟩;refine Zag ?_;refine Zag (Zab (Zaa.go (Zac rfl rfl) (Zaa.go (Zai rfl ZaL rfl rfl rfl) (Zaa.go (Zaj rfl rfl rfl on22 rfl) (Zaa.go (ZaD rfl Tryz.underlying22 rfl) (Zaa.go (ZaM rfl rfl rfl) (Zaf (ZaK rfl (fun h10 => ?_) (fun h10 => ?_)))))))))
  · have hk1 : acc.length < p.ro.length := ZaP h10;refine Zas (Zag (Zat (Za2 [[], [0], [], [2], [], [2, 3, 4], [2, 3, 4, 5], [2, 3, 4, 5, 6], [2, 3, 4, 5, 6, 7], [], [9], [], [9, 10, 11], [9, 10, 11, 12], [9, 10, 11, 12, 13], [2, 3, 4, 5, 6, 7, 8, 9, 10, 11, 12, 13, 14], [2, 3, 4, 5, 6, 7, 8, 9, 10, 11, 12, 13, 14, 15], [0, 1, 2, 3, 4, 5, 6, 7, 8, 9, 10, 11, 12, 13, 14, 15, 16], [0, 1, 2, 3, 4, 5, 6, 7, 8, 9, 10, 11, 12, 13, 14, 15, 16, 17], [0, 1, 2, 3, 4, 5, 6, 7, 8, 9, 10, 11, 12, 13, 14, 15, 16, 17, 18]] mixed rfl (dws (Zah [3] [] rfl rfl (fun _ => Zae (Zai rfl fi35_0 rfl rfl rfl)) (Zao [13] rfl rfl (fun _ => Zae (Zaj rfl rfl rfl on32 rfl)) (Zah [1] [] rfl rfl (fun _ => Zae (Zai rfl ZaL rfl rfl rfl)) ?_)))))));refine Zao [15] rfl rfl (fun _ => Zae (Zaj rfl rfl rfl on22 rfl)) (Zah [4] [] rfl rfl (fun _ => Zae (Zac rfl rfl)) (Zah [16, 17] [] rfl rfl (fun _ => Zae (Zay (acc.length) rfl rfl (rfl) (getm hk1) Tryz.underlying22 rfl sz67 rfl)) (Zah [18] [] rfl rfl (fun _ => Zae (Zax rfl Zbs rfl rfl rfl)) (Zah [19] [] rfl rfl (fun _ => Zae (ZaE rfl rfl rw56 rfl)) (Zah [20] [] rfl rfl (fun _ => Zae (Zan (ownres_p p.ro[acc.length].r) rfl rfl)) (Zah [1] [] rfl rfl (fun _ => Zae (Zai rfl ZaL rfl rfl rfl)) (Zao [22] rfl rfl (fun _ => Zae (Zaj rfl rfl rfl on22 rfl)) (Zah [4] [] rfl rfl (fun _ => Zae (Zac rfl rfl)) ?_))))))));refine Zah [23, 24] [] rfl rfl (fun _ => Zae (Zay (acc.length) rfl rfl (rfl) (getm hk1) Tryz.underlying22 rfl sz67 rfl)) (Zah [25] [] rfl rfl (fun _ => Zae (Zau rfl ZbO rfl rfl rfl)) (Zah [26] [] rfl rfl (fun _ => Zae (Zaz rfl rfl on2 rfl)) (Zah [21, 27] [] rfl rfl (fun _ => Zae (Za5 zl82 pl82 rfl rfl rfl)) (Zbt [28] [50] [(29, _)] rfl rfl (fun _ => Zba (ZaJ 50 sl32 rfl rfl rfl rfl rfl rfl rfl rfl)) (.inr ⟨29, _, rfl, rfl, rfl, rfl, rfl⟩) rfl rfl rfl rfl rfl (dwc 17 rfl rfl rfl (dw1 18 rfl rfl (Zam.go (Zbd (acc) ([p.ro[acc.length]]) rfl rfl rfl rfl rfl rfl rfl rfl sl32 (by simp only [List.length_singleton]; omega) rfl rfl rfl rfl) (Zaf ⟨rfl, ?_⟩))))))));refine dw1 19 rfl rfl (Zaa.go (Zai rfl fi35_0 rfl rfl rfl) (Zaf ⟨rfl, ?_⟩));refine dw1 20 rfl rfl (Zam.go (ZaF rfl rfl rfl rfl rfl rfl rfl sz32) (Zaf ⟨rfl, ?_⟩));refine dwe (Zab (Zaa.go (Zac rfl rfl) (Zaa.go (ZaG rfl rfl (wrapA acc p.ro[acc.length] (by omega)) rfl) (Zaa.go (Zad rfl rfl) (Zaf ?_)))));exact ⟨acc ++ [p.ro[acc.length]], ⟨tk_next hI hk1, by rw [List.length_append]; show acc.length + 1 ≤ _; omega⟩, by rw [List.length_append]; show p.ro.length - (acc.length + 1) < p.ro.length - acc.length; omega, Zaw hF [901, 1, 2, 3] rfl (rfl) ⟨rfl, rfl, rfl, rfl, trivial⟩⟩
  · refine ZaQ (Zag (Zag ?_));have hacc := tk_end hI (fun h => h10 (by omega));refine ZbE (ys := p.ro.map rooD) 3 0 0 901 rfl rfl rfl (by simp) (by rw [hacc]; exact List.take_of_length_le (by simp)) rfl rfl rfl rfl rfl rfl (Zci 3 0 1 902 sl33 rfl rfl rfl rfl rfl rfl rfl (Zab (Zaa.go (Zad rfl rfl) (Zaf (Zat (ZaO (α := List Itm) (fun acc2 => ⟨51, [(1, (.ptr 1 0 0)), (2, (.ptr 2 0 0)), (3, (.ptr 3 0 0)), (5, (.d (intD (acc2.length : Int))))], [(902, [.rowD 91 6 (acc2.map itmD)]), (1, [prbB2 25 p]), (2, [.blk 35 [nilC, nilC]]), (3, [.blk 35 [.d (.sl none (p.ro.map rooD)), .own 902 0 acc2.length]])]⟩) (fun acc2 => acc2 = p.it.take acc2.length ∧ acc2.length ≤ p.it.length) (fun acc2 => p.it.length - acc2.length) ([]) (⟨by simp, Nat.zero_le _⟩) (Zaw hF [902, 1, 2, 3] rfl rfl ⟨rfl, rfl, rfl, rfl, trivial⟩) ?_))))));rintro acc2 ⟨hJ, hk2⟩;refine Zag ?_;refine Zag (Zab (Zaa.go (Zac rfl rfl) (Zaa.go (Zai rfl ZaU rfl rfl rfl) (Zaa.go (Zaj rfl rfl rfl on23 rfl) (Zaa.go (ZaD rfl Tryz.underlying23 rfl) (Zaa.go (ZaM rfl rfl rfl) (Zaf (ZaK rfl (fun h36 => ?_) (fun h36 => ?_)))))))))
    · have hk3 : acc2.length < p.it.length := ZaP h36;refine Zas ?_;refine Zag (Zat (Za2 [[], [0], [], [2], [], [2, 3, 4], [2, 3, 4, 5], [2, 3, 4, 5, 6], [2, 3, 4, 5, 6, 7], [0, 1, 2, 3, 4, 5, 6, 7, 8], [0, 1, 2, 3, 4, 5, 6, 7, 8, 9], [0, 1, 2, 3, 4, 5, 6, 7, 8, 9, 10]] mixed rfl (dws (Zah [3] [] rfl rfl (fun _ => Zae (Zai rfl fi35_1 rfl rfl rfl)) (Zao [39] rfl rfl (fun _ => Zae (Zaj rfl rfl rfl on33 rfl)) (Zah [1] [] rfl rfl (fun _ => Zae (Zai rfl ZaU rfl rfl rfl)) (Zao [41] rfl rfl (fun _ => Zae (Zaj rfl rfl rfl on23 rfl)) (Zah [5] [] rfl rfl (fun _ => Zae (Zac rfl rfl)) ?_))))))));have hgi := g3 _ (List.getElem_mem hk3);refine Zah [42, 43] [] rfl rfl (fun _ => Zae (Zay (acc2.length) rfl rfl (rfl) (getm hk3) Tryz.underlying23 rfl sz64 rfl)) (Zah [44] [] rfl rfl (fun _ => Zae (ZaE rfl rfl rw64 rfl)) (Zah [45] [] rfl rfl (fun _ => Zae (Zan (ownitem_p p.it[acc2.length] (by omega) (by omega) (by omega)) rfl rfl)) (Zbt [46] [51] [(47, _)] rfl rfl (fun _ => Zba (ZaJ 51 sl33 rfl rfl rfl rfl rfl rfl rfl rfl)) (.inr ⟨47, _, rfl, rfl, rfl, rfl, rfl⟩) rfl rfl rfl rfl rfl (dwc 9 rfl rfl rfl (dw1 10 rfl rfl (Zam.go (Zbd (acc2) ([p.it[acc2.length]]) rfl rfl rfl rfl rfl rfl rfl rfl sl33 (by simp only [List.length_singleton]; omega) rfl rfl rfl rfl) (Zaf ⟨rfl, ?_⟩)))))));refine dw1 11 rfl rfl (Zaa.go (Zai rfl fi35_1 rfl rfl rfl) (Zaf ⟨rfl, ?_⟩));refine dw1 12 rfl rfl (Zam.go (ZaF rfl rfl rfl rfl rfl rfl rfl sz33) (Zaf ⟨rfl, ?_⟩));refine dwe (Zab (Zaa.go (Zac rfl rfl) (Zaa.go (ZaG rfl rfl (wrapA acc2 p.it[acc2.length] (by omega)) rfl) (Zaa.go (Zad rfl rfl) (Zaf ?_)))));exact ⟨acc2 ++ [p.it[acc2.length]], ⟨tk_next hJ hk3, by rw [List.length_append]; show acc2.length + 1 ≤ _; omega⟩, by rw [List.length_append]; show p.it.length - (acc2.length + 1) < p.it.length - acc2.length; omega, Zaw hF [902, 1, 2, 3] rfl (rfl) ⟨rfl, rfl, rfl, rfl, trivial⟩⟩
    · refine ZaQ (Zag ?_);have hacc2 := tk_end hJ (fun h => h36 (by omega));refine ZbE (ys := p.it.map itmD) 3 0 1 902 rfl rfl rfl (by simp) (by rw [hacc2]; exact List.take_of_length_le (by simp)) rfl rfl rfl rfl rfl rfl (Zab (Zaa.go (Zap rfl rfl rw35 rfl rfl rfl) (Zam.go (ZaF rfl rfl rfl rfl rfl rfl rfl sz35) (Zaf (Zav ?_)))));exact ⟨_, [], [], Zaq rfl, rfl, rfl, rfl, rfl⟩
def accQ (a : List UInt8) : Acc := ⟨a, 0, [67, 65, 83, 72]⟩
def payJ (id : Int) (a b : List UInt8) (n : Int) : Itm := ⟨id, 0, id, [⟨accQ a, 0 - n⟩, ⟨accQ b, n⟩], [], []⟩
set_option maxRecDepth 100000 in
theorem pay0_p (id n : Int) (a b : List UInt8) (h0 : 0 ≤ n) (h1 : n ≤ 1000000000000000) : PCalls Tryz.prog 38 [.d (intD id), .d (strD a), .d (strD b), .d (intD n)] (.agg [intD id, intD 0, intD id, .sl none ((payJ id a b n).po.map postD), .sl (some true) [], .sl (some true) []]) := by
  refine ZaI Tryz.func38 rfl rfl Tryz.ntmps38 rfl rfl rfl fun F hF => (Zag (Zab (Zam.go (ZaX 1 zl91 rfl rfl rfl rfl) (Zaf (Zag ?_)))));refine Zab (Zaa.go (Zac rfl rfl) (Zaa.go (Za5 zl49 pl49 rfl rfl rfl) (Zaa.go (Zac rfl rfl) (Zaa.go (Za5 zl49 pl49 rfl rfl rfl) (Zam.go (ZaX 2 zl49 rfl rfl rfl rfl) (Zam.go (ZaX 3 zl49 rfl rfl rfl rfl) (Zam.go (ZaF rfl rfl rfl rfl rfl rfl rfl sz49) (Zam.go (ZaF rfl rfl rfl rfl rfl rfl rfl sz49) ?_))))))));refine Zaf (Zag (Zab (Zaa.go (Zac rfl rfl) (Zaa.go (Zac rfl rfl) (Zaa.go (Zap rfl rfl rw49 rfl rfl rfl) (Zaa.go (Zac rfl rfl) (Zaa.go (st_neg rfl (IntWalk.i64_in _ (by omega)) rfl) (Zaa.go (Za5 zl144 pl144 rfl rfl rfl) ?_))))))));refine Zaa.go (Zap rfl rfl rw49 rfl rfl rfl) (Zaa.go (Zac rfl rfl) (Zaa.go (Za5 zl144 pl144 rfl rfl rfl) (Zam.go (ZaJ 4 sl88 rfl rfl rfl rfl rfl rfl rfl rfl) (ZcF (emb := postD) 24 4 (payJ id a b n).po rfl rfl rfl rfl rfl rfl rfl (Zaa.go (Za5 zl91 pl91 rfl rfl rfl) (Zam.go (ZaF rfl rfl rfl rfl rfl rfl rfl sz91) (Zaf (Zav ?_))))))));exact ⟨_, [], [], Zaq rfl, rfl, rfl, rfl, rfl⟩
theorem pay30_p (id n : Int) (a b : List UInt8) (h0 : 0 ≤ n) (h1 : n ≤ 1000000000000000) : PCalls Tryz.prog 38 [.d (intD id), .d (strD a), .d (strD b), .d (intD n)] (itmD (payJ id a b n)) :=
  (pay0_p id n a b h0 h1).weak fun w O v h => h.aggMono rfl (by simp [D.one]) fun i c c' hc hc' v hv => by
    match i, hc, hc' with
    | 0, hc, hc' => injection hc with hc; injection hc' with hc'; subst hc hc'; exact hv
    | 1, hc, hc' => injection hc with hc; injection hc' with hc'; subst hc hc'; exact hv
    | 2, hc, hc' => injection hc with hc; injection hc' with hc'; subst hc hc'; exact hv
    | 3, hc, hc' => injection hc with hc; injection hc' with hc'; subst hc hc'; exact hv
    | 4, hc, hc' => injection hc with hc; injection hc' with hc'; subst hc hc'; exact hv.anyNil
    | 5, hc, hc' => injection hc with hc; injection hc' with hc'; subst hc hc'; exact hv.anyNil
end Go.Proofs.YtneihdahboilnaaGreat
/- Layer 30: the largest set in memory of its own. -/
namespace Go.Proofs.YtneihdahboilnaaGreat
open Go.RowKit

set_option maxRecDepth 100000 in
set_option maxHeartbeats 1000000 in
theorem explain_own (p : Prb) (hf : FewP p) (hE : prbE p = 0) : ACalls Tryz.prog 21 [.d (prbD p)] [] fun r H' => r = .tup [.own 961 0 (onIds (ordP p) (explS p).2 (ordP p).length).length, .d (.sl none ((explS p).1.map excD)), .d (intD 0)] ∧ H' = [(961, [.rowD 3 1 ((onIds (ordP p) (explS p).2 (ordP p).length).map intD)])] := by
  have hbu := build_ok p hf hE;have hsm := sml_P hf hE;unfold explS;rw [netP_S] at hbu
  obtain ⟨its, hits⟩ : ∃ its, ordP p = its := ⟨_, rfl⟩
  obtain ⟨ros, hros⟩ : ∃ ros, rosS p = ros := ⟨_, rfl⟩
  rw [hits, hros] at hbu hsm ⊢;have hl := hsm.l;refine ZaI Tryz.func21 rfl rfl Tryz.ntmps21 rfl rfl rfl fun F hF => (Zag (Zab ?_));refine Zam.go (ZaS 1 rfl rfl rfl rfl rfl rfl rfl) (Zaa.go (Zad rfl rfl) (Zaa.go (Zad rfl rfl) (Zaa.go (Zad rfl rfl) (Zaf (a_scope (Zag (Zab (Zaa.go (Zap rfl rfl rw35 rfl rfl rfl) ?_))))))));refine o_step (st_callX hbu rfl [40, 50, 51] ⟨rfl, rfl, rfl, trivial⟩ rfl rfl rfl rfl (fun r H' ⟨_, _, _, _, _, _, _, e1, e2, _⟩ => by subst e1 e2; exact ⟨rfl, rfl, rfl⟩) rfl) rfl ?_; rintro _ ⟨r, H', ⟨wb, mv, nb, pb, N, M, bs, rfl, rfl, hR, hN⟩, rfl⟩;refine Zaa.go (Zac rfl rfl) (Zaa.go (ZaA rfl rfl rfl) (Zaa.go (ZaA rfl rfl rfl) (Zaa.go (Zad rfl rfl) (Zaa.go (Zad rfl rfl) (Zaf ?_)))));refine Zag (Zag (Zab (Zaa.go (Zac rfl rfl) (Zaa.go (Za0 rfl rfl rfl) (Zaf (Za1 rfl (rfl) (Zas (Zag ?_))))))));have hids : idsN N = its.map Itm.id := by rw [← ers_ids, hN, S_ids]
  rw [hids];refine Zab (Zaa.go (Zad rfl rfl) (Zaf (Zag (a_label (Zag (Zat (Zca 7 900 sl42 rfl rfl rfl rfl (ZaO (α := (Nat → Bool) × Net × MF × List Exc × Nat) (fun q => ⟨64, [(5, (.d (pD wb 0))), (7, (.own 900 0 q.2.2.2.1.length))], (900, [.rowD 53 9 (q.2.2.2.1.map excD)]) :: HW mv bs (byL nb (its.map Itm.id)) q.2.2.1⟩) (fun q => Rep wb mv nb pb q.2.1 q.2.2.1 ∧ ersN q.2.1 = netS ros its q.1 ∧ cntOn its.length q.1 ≤ q.2.2.2.2 ∧ q.2.2.2.1.length + q.2.2.2.2 ≤ its.length ∧ q.2.2.2.1 ++ (runS ros its q.2.2.2.2 q.1).1 = (runS ros its its.length fun _ => true).1 ∧ (runS ros its q.2.2.2.2 q.1).2 = (runS ros its its.length fun _ => true).2) (fun q => q.2.2.2.2) ((fun _ => true, N, M, [], its.length)) (⟨hR, hN, by show ((List.range its.length).filter _).length ≤ _; exact Nat.le_trans (List.length_filter_le _ _) (by simp), by simp, rfl, rfl⟩) (Zaw hF [900, 40, 50, 51] rfl rfl ⟨rfl, rfl, trivial⟩) ?_))))))));rintro ⟨on, N, M, acc, f⟩ ⟨hR, hN, hc, hal, hr1, hr2⟩;dsimp only at hR hN hc hal hr1 hr2 ⊢;refine Zat (Zag ?_);have hw := W_ers (N := N) (by rw [hN]; exact S_w hsm on);have hsb := S_sumB hsm hN;have hids : idsN N = its.map Itm.id := by rw [← ers_ids, hN, S_ids]
  have hnx := next_c bs hR hw hsb;rw [hids] at hnx;refine Zab (Zaa.go (Zac rfl rfl) (Zam.go (Zby hnx rfl [40, 50, 51] ⟨rfl, rfl, rfl, trivial⟩ rfl rfl rfl rfl rfl rfl rfl rfl rfl) (Zaa.go (Zac rfl rfl) ?_)))
  cases hne : nextN N
  · refine Zaa.go (ZaA rfl rfl rfl) (Zaa.go (ZaA rfl rfl rfl) (Zam.go (ZaX 2 zl53 rfl rfl rfl rfl) (Zam.go (ZaF rfl rfl rfl rfl rfl rfl rfl sz53) (Zaa.go (Zad rfl rfl) (Zaf ?_)))));refine Zag (Zag (Zab (Zaa.go (Zac rfl rfl) (Zaa.go (Zbf rfl rfl) (Zaf (ZaW rfl (rfl) (ZaQ (Zag ?_))))))));have hro : runS ros its f on = ([], on) := run_none (by rw [← hN, next_ers, hne]);rw [hro] at hr1 hr2;rw [List.append_nil] at hr1;dsimp only at hr2;have hwb := hR.w;have hnr : rowAt M N.nh pnT 1 ((List.range N.nd.length).map fun i => ptrD (nb i)) := hR.rs.1 .n;have hnz := ZbM hnr;rw [List.length_range] at hnz;have hNl := S_len hN;refine Zab (Zaa.go (Zad rfl rfl) (Zaf (Zag (Zag (Zab (Zaa.go (Zac rfl rfl) ?_))))));refine Zaa.go (ZaN rfl rfl) (Zaa.go (Zar rfl ZcD rfl rfl rfl) (Zaa.go (Za7 (f := 40) rfl rfl (hwb) rfl on104 rfl) (Zaa.go (Zcu hnz rfl Tryz.underlying104 rfl) (Zaa.go (Zac rfl rfl) (Zaf (Zat (Zca 10 961 sl28 rfl rfl rfl rfl (ZaO (α := Nat × List Int) (fun q => ⟨64, [(7, (.own 900 0 acc.length)), (10, (.own 961 0 q.2.length)), (43, (.d (hdr N.nh N.nd.length))), (44, (.d (intD (N.nd.length : Int)))), (45, (.d (intD (q.1 : Int))))], (961, [.rowD 3 1 (q.2.map intD)]) :: (900, [.rowD 53 9 (acc.map excD)]) :: HW mv bs (byL nb (its.map Itm.id)) M⟩) (fun q => q.1 ≤ N.nd.length ∧ q.2 = onIds its on q.1) (fun q => N.nd.length - q.1) ((0, [])) (⟨Nat.zero_le _, rfl⟩) (Zaw hF [961, 900, 40, 50, 51] rfl rfl ⟨rfl, rfl, rfl, rfl, rfl, trivial⟩) ?_))))))));rintro ⟨k, ids⟩ ⟨hk0, hI⟩;dsimp only at hk0 hI ⊢;refine Zag (Zab (Zaa.go (ZaM rfl rfl rfl) (Zaf (Zag (ZaK rfl (fun h46 => ?_) (fun h46 => ?_))))))
    · have hk1 : k < N.nd.length := ZaP h46;refine Zas (Zag (Zat (Zag ?_)))
      obtain ⟨x, hx⟩ : ∃ x, N.nd[k]? = some x := ⟨_, List.getElem?_eq_getElem hk1⟩
      obtain ⟨hiN, hoi, hit⟩ := S_nd_at hN hx;have hxb := hR.n k x hx;obtain ⟨rb, rc, hre⟩ := ZbK hnr (j := k) (by rw [List.length_range]; exact hk1);have hrow := ZbZ hnr hre;have hidl : ids.length ≤ k := by rw [hI]; exact onIds_len its on k
      refine Zab (Zaa.go (Zb0 hre (k) rfl rfl rfl hk1 Tryz.underlying104 sz103 rfl) (Zaa.go (ZcT (f := 40) (e := k) (off := 0) rfl (by omega) rfl (hrow) ((by rw [List.getElem?_map, List.getElem?_range hk1]; rfl)) rfl on103 rfl) ?_));refine Zaa.go (Zad rfl rfl) ?_;refine Zaf (Zag (Zab (Zaa.go (Zac rfl rfl) (Zaa.go (ZaN rfl rfl) (Zaa.go (Zar rfl ZcW rfl rfl rfl) (Zaa.go (Za7 (f := 40) rfl rfl (hxb) rfl on4 rfl) (Zaf (Zbl rfl (fun h52 => ?_) (fun h52 => ?_)))))))))
      · refine Zab (Zaa.go (Zac rfl rfl) (Zaa.go (Zac rfl rfl) (Zaa.go (ZaN rfl rfl) (Zaa.go (Zar rfl fi112_0 rfl rfl rfl) (Zaa.go (Zar rfl Zb6 rfl rfl rfl) ?_)))));refine Zaa.go (Za7 (f := 40) rfl rfl (hxb) rfl on3 rfl) (Zam.go (ZaJ 3 sl28 rfl rfl rfl rfl rfl rfl rfl rfl) (Zam.go (Zbd (ids) ([x.it.id]) rfl rfl rfl rfl rfl rfl rfl rfl sl28 (by simp only [List.length_singleton]; omega) rfl rfl rfl rfl) (Zaa.go (Zad rfl rfl) (Zaf (Zab (Zaa.go (ZaG rfl rfl (wrapS (k + 1) (by omega)) rfl) (Zaa.go (Zac rfl rfl) (Zaf ?_))))))));exact ⟨(k + 1, _), ⟨by show k + 1 ≤ _; omega, by show _ = onIds its on (k + 1); rw [onIds_snoc, if_pos (by rw [← hoi]; simpa using h52), ← hI, ← hit]⟩, by show N.nd.length - (k + 1) < N.nd.length - k; omega, Zaw hF [961, 900, 40, 50, 51] rfl (rfl) ⟨rfl, rfl, rfl, rfl, rfl, trivial⟩⟩
      · refine Zas (Zab (Zaa.go (ZaG rfl rfl (wrapS (k + 1) (by omega)) rfl) (Zaa.go (Zac rfl rfl) (Zaf ?_))));exact ⟨(k + 1, _), ⟨by show k + 1 ≤ _; omega, by show _ = onIds its on (k + 1); rw [onIds_snoc, if_neg (by rw [← hoi]; simpa using h52), List.append_nil, ← hI]⟩, by show N.nd.length - (k + 1) < N.nd.length - k; omega, Zaw hF [961, 900, 40, 50, 51] rfl (rfl) ⟨rfl, rfl, rfl, rfl, rfl, trivial⟩⟩
    · refine ZaQ (Zag ?_);have hke : k = its.length := by have h := h46; omega
      refine ZbC (emb := excD) 7 900 acc rfl rfl rfl rfl rfl rfl rfl ?_;have hids2 : ids = onIds its (runS ros its its.length fun _ => true).2 its.length := by rw [hI, hke, hr2]
      subst hids2;subst hr1;refine Zab (Zaa.go (Zac rfl rfl) (Zaa.go (Zac rfl rfl) (Zaa.go (Zad rfl rfl) (Zaa.go (Zad rfl rfl) (Zaa.go (Zad rfl rfl) (Zaf (Zav ?_)))))));exact ⟨_, [961], _, Zaq rfl, rfl, rfl, rfl, rfl⟩
  · refine Zaa.go (ZaA rfl rfl rfl) (Zaa.go (ZaA rfl rfl rfl) (Zam.go (ZaX 4 zl53 rfl rfl rfl rfl) (Zam.go (ZaF rfl rfl rfl rfl rfl rfl rfl sz53) (Zaa.go (Zad rfl rfl) (Zaf ?_)))));refine Zag (Zag (Zab (Zaa.go (Zac rfl rfl) (Zaa.go (Zbf rfl rfl) (Zaf (Za1 rfl (rfl) (Zas (Zag ?_))))))))
    rename_i e
    obtain ⟨i, x, hx, hon, hid⟩ := next_on hne;obtain ⟨hiN, hoi, hit⟩ := S_nd_at hN hx;rw [hon] at hoi;have hoi := hoi.symm;have hil : i < (its.map Itm.id).length := by rw [List.length_map]; exact hiN
    have hei : (its.map Itm.id)[i] = e.id := by rw [hid, hit, List.getElem_map, ZaT itm0 hiN]
    have hby := byL_get (nb := nb) hsm.i hil;rw [hei] at hby;have hcn := cntOn_off hiN hoi
    obtain ⟨f2, rfl⟩ : ∃ f2, f = f2 + 1 := ⟨f - 1, by omega⟩
    have hrs : runS ros its (f2 + 1) on = (e :: (runS ros its f2 (setOff on i)).1, (runS ros its f2 (setOff on i)).2) := by rw [run_some (by rw [← hN, next_ers, hne]), ← hei, idx_nodup hsm.i hil]
    have hxm := List.mem_of_getElem? hx;have hrm := remove_c hR hx hsb (hw.e x hxm) (hw.l x hxm).1 (hw.l x hxm).2.1 (fun e he => (hw.p x hxm e he).2) hw.m;refine Za2 [[], [0], [0, 1], [0, 1, 2], [], [4], [0, 1, 2, 3, 4, 5], [0, 1, 2, 3, 4, 5, 6]] mixed rfl (dws (Zah [5] [] rfl rfl (fun _ => Zae (Zac rfl rfl)) (Zah [28] [] rfl rfl (fun _ => Zae (ZaN rfl rfl)) ?_)));refine Zah [29] [] rfl rfl (fun _ => Zae (Zar rfl fi108_2 rfl rfl rfl)) (Zah [30] [40] rfl rfl (fun _ => Zae (Za7 (f := 40) rfl rfl (hR.w) rfl on106 rfl)) (Zah [8] [] rfl rfl (fun _ => Zae (Zai rfl fi53_0 rfl rfl rfl)) (Zah [32] [4] rfl rfl (fun _ => Zae (Zaj rfl rfl rfl on3 rfl)) (dwc 6 rfl rfl rfl (dw1 7 rfl rfl (o_rawMap 31 51 0 rfl rfl (Zaa.go (ZbQ (byL nb (its.map Itm.id)) e.id (.pointer none) (pV (nb i) 0) rfl rfl rfl mt106 kt3 za103 hby rfl) (Zaf ⟨rfl, ?_⟩))))))));refine dw1 8 rfl rfl ?_;refine o_step (st_callX hrm rfl [40] ⟨rfl, trivial⟩ rfl rfl rfl rfl (fun r H' ⟨e1, M', e2, _⟩ => by subst e1 e2; exact ⟨rfl, rfl, rfl⟩) rfl) rfl ?_; rintro _ ⟨r, H', ⟨rfl, M2, rfl, hR2⟩, rfl⟩;refine Zaf ⟨rfl, ?_⟩;refine dwe (Zab (Zaa.go (Zac rfl rfl) (Zaa.go (Zap rfl rfl rw53 rfl rfl rfl) (Zam.go (ZaJ 5 sl42 rfl rfl rfl rfl rfl rfl rfl rfl) (Zam.go (Zbd (acc) ([e]) rfl rfl rfl rfl rfl rfl rfl rfl sl42 (by simp only [List.length_singleton]; omega) rfl rfl rfl rfl) (Zaa.go (Zad rfl rfl) (Zaf ?_)))))));exact ⟨(setOff on i, rmN N i x, M2, acc ++ [e], f2), ⟨hR2, rm_S hsm.r hN hiN hoi hx, by show cntOn its.length (setOff on i) ≤ f2; omega, by show (acc ++ [e]).length + f2 ≤ _; rw [List.length_append]; simp; omega, by show (acc ++ [e]) ++ (runS ros its f2 (setOff on i)).1 = _; rw [List.append_assoc, ← hr1, hrs]; rfl, by show (runS ros its f2 (setOff on i)).2 = _; rw [← hr2, hrs]⟩, by show f2 < f2 + 1; omega, Zaw hF [900, 40, 50, 51] rfl (rfl) ⟨rfl, rfl, trivial⟩⟩
set_option maxRecDepth 100000 in
theorem largest_own (p : Prb) (hf : FewP p) (hE : prbE p = 0) : ACalls Tryz.prog 15 [.d (prbD p)] [] fun r H' => r = .tup [.own 961 0 (largeS p).length, .d (intD 0)] ∧ H' = [(961, [.rowD 3 1 ((largeS p).map intD)])] := by
  have hx := explain_own p hf hE;refine ZaI Tryz.func15 rfl rfl Tryz.ntmps15 rfl rfl rfl fun F hF => (Zag (Zab (Zam.go (ZaS 1 rfl rfl rfl rfl rfl rfl rfl) (Zaa.go (Zad rfl rfl) (Zaa.go (Zad rfl rfl) (Zaf (Zag (Zab ?_))))))));refine Zaa.go (Zap rfl rfl rw35 rfl rfl rfl) (Zam.go (Zby hx rfl [961] ⟨rfl, trivial⟩ rfl rfl rfl rfl rfl rfl rfl rfl rfl) (Zaa.go (Zac rfl rfl) (Zaa.go (Zbi rfl rfl rfl) (Zaa.go (Zbi rfl rfl rfl) (Zaa.go (Zbi rfl rfl rfl) (Zaa.go (Zad rfl rfl) (Zaa.go (Zad rfl rfl) (Zaa.go (Zad rfl rfl) ?_))))))));refine Zaf (Zag (Zab (Zaa.go (Zac rfl rfl) (Zaa.go (Zac rfl rfl) (Zaa.go (Zad rfl rfl) (Zaa.go (Zad rfl rfl) (Zaf (Zav ?_))))))));exact ⟨_, [961], _, Zaq rfl, rfl, rfl, rfl, rfl⟩
theorem flat_ints (g : Nat) (E : TypeId) (l : List Int) : FlatH [(g, [.rowD E 1 (l.map intD)])] := ⟨⟨fun x hx c hc => by
  obtain ⟨y, _, rfl⟩ := List.mem_map.1 hx
  rw [List.mem_singleton.1 hc]; rfl, trivial⟩, trivial⟩
end Go.Proofs.YtneihdahboilnaaGreat
/- Layer 30: the example of the chapter. -/
namespace Go.Proofs.YtneihdahboilnaaGreat
open Go.RowKit

deriving instance DecidableEq for Exc
theorem Exc.eq_iff {x y : Exc} : x = y ↔ x.id = y.id ∧ x.re = y.re ∧ x.r = y.r ∧ x.by_ = y.by_ := by cases x; cases y; simp
def excC (e : Exc) : List Value := [.int .i64 e.id, .int .i64 e.re, .int .i64 e.r.k, strV e.r.acc.o, .int .i64 e.r.acc.k, strV e.r.acc.a, strV e.r.f, strV e.r.t, .int .i64 e.by_]
abbrev excT : List TypeDesc := [.int .i64, .int .i64, .int .i64, .string, .int .i64, .string, .string, .string, .int .i64]
theorem exc_eqC (a b : Exc) : eqCells (excC a) (excC b) = decide (a = b) := by
  simp only [excC, eqCells, eqCell_int, eqCell_str, Exc.eq_iff, Rsc.eq_iff, Acc.eq_iff, Bool.and_true, Bool.decide_and, Bool.and_assoc]
theorem exc_plain (a : Exc) : PlainAre excT (excC a) := ZbL rfl (ZbL rfl (ZbL rfl (ZbL trivial (ZbL rfl (ZbL trivial (ZbL trivial (ZbL trivial (ZbL rfl plain_nil))))))))
def rcK (a : UInt8) : Rsc := ⟨0, accQ [a], [], []⟩
def nmK : List (List UInt8) := [[65], [66], [67]]
def roK3 : List Roo := [⟨rcK 65, 0⟩, ⟨rcK 66, 0⟩, ⟨rcK 67, 0⟩]
def itK3 : List Itm := [payJ 0 [65] [66] 5, payJ 1 [66] [67] 5, payJ 2 [67] [65] 5]
def itK4 : Itm := payJ 3 [65] [66] 1
def pKA : Prb := ⟨roK3, itK3⟩
def pKB : Prb := ⟨roK3, itK3 ++ [itK4]⟩
theorem pKA_E : prbE pKA = 0 := by decide
theorem pKB_E : prbE pKB = 0 := by decide
theorem pKA_F : FewP pKA := ⟨by decide, by decide, by decide⟩
theorem pKB_F : FewP pKB := ⟨by decide, by decide, by decide⟩
theorem pKA_R : rosS pKA = roK3 := (rosS_one pKA_E (List.Perm.refl _) (by decide)).symm
theorem pKB_R : rosS pKB = roK3 := (rosS_one pKB_E (List.Perm.refl _) (by decide)).symm
theorem pKA_O : ordP pKA = itK3 := by decide
theorem pKB_O : ordP pKB = itK3 ++ [itK4] := by decide
theorem pKA_S : largeS pKA = [0, 1, 2] := by
  unfold largeS explS;rw [pKA_R, pKA_O];exact of_decide_eq_true (by kernel_rfl)
theorem pKB_S : largeS pKB = [0, 1, 2] := by
  unfold largeS explS;rw [pKB_R, pKB_O];exact of_decide_eq_true (by kernel_rfl)
theorem pKB_X : (explS pKB).1 = [⟨3, 0, rcK 65, -1⟩] := by
  unfold explS;rw [pKB_R, pKB_O];exact of_decide_eq_true (by kernel_rfl)
theorem pKA_G : ixG (groN (netS (rosS pKA) (ordP pKA) fun _ => true)) (List.range (ordP pKA).length) = -1 := by
  rw [pKA_R, pKA_O];exact of_decide_eq_true (by kernel_rfl)
theorem kn_l : ACalls Tryz.prog 15 [.d (prbD pKA)] [] fun r H' => r = .tup [.own 961 0 3, .d (intD 0)] ∧ H' = [(961, [.rowD 3 1 (([0, 1, 2] : List Int).map intD)])] := by
  have h := largest_own pKA pKA_F pKA_E;rw [pKA_S] at h; exact h
theorem kn_g : PCalls Tryz.prog 25 [.d (prbD pKA)] (.tup [.sl (some true) [], intD 0]) := gross_none pKA pKA_F pKA_E pKA_G
theorem kn_x : PCalls Tryz.prog 21 [.d (prbD pKB)] (.tup [.sl none (([0, 1, 2] : List Int).map intD), .sl none (([⟨3, 0, rcK 65, -1⟩] : List Exc).map excD), intD 0]) := by
  have h := explain_ok pKB pKB_F pKB_E;rw [pKB_X] at h;rw [show onIds (ordP pKB) (explS pKB).2 (ordP pKB).length = [0, 1, 2] from pKB_S] at h;exact h
theorem snap_prb {hp : Hp} {bl : List Nat} {f n k : Nat} {t : TypeId} (p : Prb) (ho : hget hp f 0 = some (.rowD t k (p.it.map itmD))) (hb : memB f bl = true) (hn : n = p.it.length) : Snap hp bl (.agg [.d (.sl none (p.ro.map rooD)), .own f 0 n]) (prbD p) := by
  refine .agg rfl (by simp [D.one]) fun j a c ha hc => ?_
  match j, ha, hc with
  | 0, ha, hc => injection ha with ha; injection hc with hc; subst ha hc; exact .d
  | 1, ha, hc => injection ha with ha; injection hc with hc; subst ha hc; exact .own ho hb (by rw [List.length_map]; omega) (List.take_of_length_le (by rw [List.length_map]; omega))
set_option maxRecDepth 100000 in
theorem Zc5 : PCalls Tryz.prog 14 [] (.raw (.bool true)) := by
  refine ZaI Tryz.func14 rfl rfl Tryz.ntmps14 rfl rfl rfl fun F hF => (Zag (Zab (Zaa.go (Zad rfl rfl) (Zaf (Zag ?_)))));refine Zab (Zam.go (ZaX 1 zl35 rfl rfl rfl rfl) (Zaf (Zag (Zab (Zam.go (ZaJ 2 sl87 rfl rfl rfl rfl rfl rfl rfl rfl) (ZcF (emb := strD) 11 2 nmK rfl rfl rfl rfl rfl rfl rfl (Zaa.go (Zad rfl rfl) (Zaf ?_))))))));refine Zag (Zag (Zci 1 0 0 901 sl32 rfl rfl rfl rfl rfl rfl rfl (Zci 1 0 1 902 sl33 rfl rfl rfl rfl rfl rfl rfl (Zab (Zaa.go (Zad rfl rfl) (Zaf (Zat (ZaO (α := Nat × List Roo × List Itm) (fun q => ⟨109, [(1, (.ptr 1 0 0)), (2, (.d (.sl none (nmK.map strD)))), (3, (.d (intD (q.1 : Int))))], [(902, [.rowD 91 6 (q.2.2.map itmD)]), (901, [.rowD 82 7 (q.2.1.map rooD)]), (1, [.blk 35 [.own 901 0 q.2.1.length, .own 902 0 q.2.2.length]])]⟩) (fun q => q.1 ≤ 3 ∧ q.2.1 = roK3.take q.1 ∧ q.2.2 = itK3.take q.1) (fun q => 3 - q.1) ((0, [], [])) (⟨by decide, rfl, rfl⟩) (Zaw hF [902, 901, 1] rfl rfl ⟨rfl, rfl, rfl, trivial⟩) ?_))))))));rintro ⟨k, ro, its⟩ ⟨hk0, hro, hits⟩;dsimp only at hk0 hro hits ⊢;refine Zag (Zag (Zab (Zaa.go (Zac rfl rfl) (Zaa.go (ZaM rfl rfl rfl) (Zaf (ZaK rfl (fun h13 => ?_) (fun h13 => ?_)))))))
  · have hk1 : k < nmK.length := by have h := ZaP (b := 3) h13; exact h
    refine Zas (Zag (Zat (Zag ?_)));have hk2 : (k + 1) % 3 < nmK.length := Nat.mod_lt _ (by decide);have hro1 : ro ++ [⟨⟨0, accQ nmK[k], [], []⟩, 0⟩] = roK3.take (k + 1) := by subst hro; match k, hk1 with | 0, _ => rfl | 1, _ => rfl | 2, _ => rfl
    have hit1 : its ++ [payJ (k : Int) nmK[k] nmK[(k + 1) % 3] 5] = itK3.take (k + 1) := by subst hits; match k, hk1 with | 0, _ => rfl | 1, _ => rfl | 2, _ => rfl
    have hrl : ro.length ≤ 3 := by rw [hro]; simp [roK3]; omega
    have hil : its.length ≤ 3 := by rw [hits]; simp [itK3]; omega
    have hpy := pay30_p (k : Int) 5 nmK[k] nmK[(k + 1) % 3] (by decide) (by decide);refine Za2 [[], [0], [], [], [2, 3], [2, 3, 4], [2, 3, 4, 5], [2, 3, 4, 5, 6], [2, 3, 4, 5, 6, 7], [2, 3, 4, 5, 6, 7, 8], [0, 1, 2, 3, 4, 5, 6, 7, 8, 9], [0, 1, 2, 3, 4, 5, 6, 7, 8, 9, 10], [0, 1, 2, 3, 4, 5, 6, 7, 8, 9, 10, 11]] mixed rfl (dws (Zah [1] [] rfl rfl (fun _ => Zae (Zai rfl fi35_0 rfl rfl rfl)) (Zao [16] rfl rfl (fun _ => Zae (Zaj rfl rfl rfl on32 rfl)) (Zah [2] [] rfl rfl (fun _ => Zae (Zac rfl rfl)) (Zah [3] [] rfl rfl (fun _ => Zae (Zac rfl rfl)) (Zah [18, 19] [] rfl rfl (fun _ => Zae (Zay (k) rfl rfl (rfl) (getm hk1) Tryz.underlying87 rfl sz9 rfl)) ?_))))));refine Zah [20] [] rfl rfl (fun _ => Zae (Zaz rfl rfl on9 rfl)) (Zah [21] [] rfl rfl (fun _ => Zae (Za5 zl49 pl49 rfl rfl rfl)) (Zah [22] [] rfl rfl (fun _ => Zae (Za5 zl51 pl51 rfl rfl rfl)) (Zah [23] [] rfl rfl (fun _ => Zae (Za5 zl82 pl82 rfl rfl rfl)) (Zbt [24] [50] [(25, _)] rfl rfl (fun _ => Zba (ZaJ 50 sl32 rfl rfl rfl rfl rfl rfl rfl rfl)) (.inr ⟨25, _, rfl, rfl, rfl, rfl, rfl⟩) rfl rfl rfl rfl rfl (dwc 10 rfl rfl rfl (dw1 11 rfl rfl (Zam.go (Zbd (ro) ([⟨⟨0, accQ nmK[k], [], []⟩, 0⟩]) rfl rfl rfl rfl rfl rfl rfl rfl sl32 (by simp only [List.length_singleton]; omega) rfl rfl rfl rfl) (Zaf ⟨rfl, ?_⟩))))))));refine dw1 12 rfl rfl (Zaa.go (Zai rfl fi35_0 rfl rfl rfl) (Zaf ⟨rfl, ?_⟩));refine dw1 13 rfl rfl (Zam.go (ZaF rfl rfl rfl rfl rfl rfl rfl sz32) (Zaf ⟨rfl, ?_⟩));refine dwe (Za2 [[], [0], [], [], [], [3, 4], [3, 4, 5], [], [], [8], [8, 9], [7, 8, 9, 10], [7, 8, 9, 10, 11], [2, 3, 4, 5, 6, 7, 8, 9, 10, 11, 12], [2, 3, 4, 5, 6, 7, 8, 9, 10, 11, 12, 13], [0, 1, 2, 3, 4, 5, 6, 7, 8, 9, 10, 11, 12, 13, 14], [0, 1, 2, 3, 4, 5, 6, 7, 8, 9, 10, 11, 12, 13, 14, 15], [0, 1, 2, 3, 4, 5, 6, 7, 8, 9, 10, 11, 12, 13, 14, 15, 16]] mixed rfl (dws (Zah [1] [] rfl rfl (fun _ => Zae (Zai rfl fi35_1 rfl rfl rfl)) ?_)));refine Zao [28] rfl rfl (fun _ => Zae (Zaj rfl rfl rfl on33 rfl)) (Zah [3] [] rfl rfl (fun _ => Zae (Zac rfl rfl)) (Zah [2] [] rfl rfl (fun _ => Zae (Zac rfl rfl)) (Zah [3] [] rfl rfl (fun _ => Zae (Zac rfl rfl)) (Zah [31, 32] [] rfl rfl (fun _ => Zae (Zay (k) rfl rfl (rfl) (getm hk1) Tryz.underlying87 rfl sz9 rfl)) (Zah [33] [] rfl rfl (fun _ => Zae (Zaz rfl rfl on9 rfl)) (Zah [2] [] rfl rfl (fun _ => Zae (Zac rfl rfl)) (Zah [3] [] rfl rfl (fun _ => Zae (Zac rfl rfl)) (Zah [36] [] rfl rfl (fun _ => Zae (ZaG rfl rfl (wrapS (k + 1) (by omega)) rfl)) ?_))))))));refine Zah [37] [] rfl rfl (fun _ => Zae (st_rem rfl rfl (by omega) (by rfl) rfl)) (Zah [35, 38] [] rfl rfl (fun _ => Zae (Zay ((k + 1) % 3) rfl rfl (rfl) (getm hk2) Tryz.underlying87 rfl sz9 rfl)) (Zah [39] [] rfl rfl (fun _ => Zae (Zaz rfl rfl on9 rfl)) (Zah [30, 34, 40] [] rfl rfl (fun _ => Zae (Zan (hpy) rfl rfl)) (Zbt [41] [51] [(42, _)] rfl rfl (fun _ => Zba (ZaJ 51 sl33 rfl rfl rfl rfl rfl rfl rfl rfl)) (.inr ⟨42, _, rfl, rfl, rfl, rfl, rfl⟩) rfl rfl rfl rfl rfl (dwc 15 rfl rfl rfl (dw1 16 rfl rfl (Zam.go (Zbd (its) ([payJ (k : Int) nmK[k] nmK[(k + 1) % 3] 5]) rfl rfl rfl rfl rfl rfl rfl rfl sl33 (by simp only [List.length_singleton]; omega) rfl rfl rfl rfl) (Zaf ⟨rfl, ?_⟩))))))));refine dw1 17 rfl rfl (Zaa.go (Zai rfl fi35_1 rfl rfl rfl) (Zaf ⟨rfl, ?_⟩));refine dw1 18 rfl rfl (Zam.go (ZaF rfl rfl rfl rfl rfl rfl rfl sz33) (Zaf ⟨rfl, ?_⟩));refine dwe (Zab (Zaa.go (Zac rfl rfl) (Zaa.go (ZaG rfl rfl (wrapS (k + 1) (by omega)) rfl) (Zaa.go (Zad rfl rfl) (Zaf ?_)))));exact ⟨(k + 1, _, _), ⟨by show k + 1 ≤ 3; omega, hro1, hit1⟩, by show 3 - (k + 1) < 3 - k; omega, Zaw hF [902, 901, 1] rfl (rfl) ⟨rfl, rfl, rfl, trivial⟩⟩
  · refine ZaQ (Zag ?_);have hk3 : k = 3 := by have h := h13; omega
    subst hk3;have hro3 : ro = roK3 := hro;have hit3 : its = itK3 := hits;subst hro3 hit3;refine ZbE (ys := roK3.map rooD) 1 0 0 901 rfl rfl rfl (by decide) rfl rfl rfl rfl rfl rfl rfl (Zab (Zaa.go (Zap rfl rfl rw35 rfl rfl rfl) (Zam.go (st_callB [902] kn_l (by exact ⟨.inr ⟨_, _, rfl, snap_prb pKA rfl rfl rfl, rfl⟩, trivial⟩) [961] ⟨rfl, trivial⟩ rfl rfl rfl rfl rfl rfl rfl (flat_ints _ _ _) rfl rfl) (Zaa.go (Zac rfl rfl) ?_))));refine Zaa.go (Zbi rfl rfl rfl) (Zaa.go (Zbi rfl rfl rfl) (Zaa.go (Zad rfl rfl) (Zaa.go (Zad rfl rfl) (Zaf (Zag (ZbC (emb := intD) 4 961 [0, 1, 2] rfl rfl rfl rfl rfl rfl rfl (Zab (Zaa.go (Zap rfl rfl rw35 rfl rfl rfl) ?_))))))));refine Zaa.go (st_callPB [902] kn_g (by exact ⟨.inr ⟨_, _, rfl, snap_prb pKA rfl rfl rfl, rfl⟩, trivial⟩) rfl rfl) (Zaa.go (Zac rfl rfl) (Zaa.go (ZaA rfl rfl rfl) (Zaa.go (ZaA rfl rfl rfl) (Zaa.go (Zad rfl rfl) (Zaa.go (Zad rfl rfl) (Zaf (Zag (Za2 [[], [0], [], [2], [0, 1, 2, 3], [0, 1, 2, 3, 4], [0, 1, 2, 3, 4, 5]] mixed rfl ?_))))))));refine dws (Zah [1] [] rfl rfl (fun _ => Zae (Zai rfl fi35_1 rfl rfl rfl)) (Zao [55] rfl rfl (fun _ => Zae (Zaj rfl rfl rfl on33 rfl)) (Zah [] [902] rfl rfl (fun _ => Zae (Zan (pay30_p 3 1 [65] [66] (by decide) (by decide)) rfl rfl)) (Zbt [57] [52] [(58, _)] rfl rfl (fun _ => Zba (ZaJ 52 sl33 rfl rfl rfl rfl rfl rfl rfl rfl)) (.inr ⟨58, _, rfl, rfl, rfl, rfl, rfl⟩) rfl rfl rfl rfl rfl (dwc 4 rfl rfl rfl (dw1 5 rfl rfl (Zam.go (Zbd (itK3) ([itK4]) rfl rfl rfl rfl rfl rfl rfl rfl sl33 (by decide) rfl rfl rfl rfl) (Zaf ⟨rfl, ?_⟩))))))));refine dw1 6 rfl rfl (Zaa.go (Zai rfl fi35_1 rfl rfl rfl) (Zaf ⟨rfl, ?_⟩));refine dw1 7 rfl rfl (Zam.go (ZaF rfl rfl rfl rfl rfl rfl rfl sz33) (Zaf ⟨rfl, ?_⟩));refine dwe ?_;refine Zag (ZbE (ys := (itK3 ++ [itK4]).map itmD) 1 0 1 902 rfl rfl rfl (by decide) rfl rfl rfl rfl rfl rfl rfl (Zab (Zaa.go (Zap rfl rfl rw35 rfl rfl rfl) (Zaa.go (Zan (kn_x) rfl rfl) (Zaa.go (Zac rfl rfl) (Zaa.go (ZaA rfl rfl rfl) (Zaa.go (ZaA rfl rfl rfl) (Zaa.go (ZaA rfl rfl rfl) ?_))))))));refine Zaa.go (Zad rfl rfl) (Zaa.go (Zad rfl rfl) (Zaa.go (Zad rfl rfl) (Zaf (Zag (Za2 [[], [0], [0, 1], [0, 1, 2], [0, 1, 2], [0, 1, 2, 3, 4], [0, 1, 2, 3, 4, 5], [0, 1, 2, 3, 4, 5, 6], [0, 1, 2, 3, 4, 5, 6, 7], [0, 1, 2, 3, 4, 5, 6, 7, 8], [0, 1, 2, 3, 4, 5, 6, 7, 8, 9], [0, 1, 2, 3, 4, 5, 6, 7, 8, 9, 10], [0, 1, 2, 3, 4, 5, 6, 7, 8, 9, 10, 11], [0, 1, 2, 3, 4, 5, 6, 7, 8, 9, 10, 11, 12], [0, 1, 2, 3, 4, 5, 6, 7, 8, 9, 10, 11, 12, 13], [0, 1, 2, 3, 4, 5, 6, 7, 8, 9, 10, 11, 12, 13, 14], [0, 1, 2, 3, 4, 5, 6, 7, 8, 9, 10, 11, 12, 13, 14, 15], [0, 1, 2, 3, 4, 5, 6, 7, 8, 9, 10, 11, 12, 13, 14, 15, 16], [0, 1, 2, 3, 4, 5, 6, 7, 8, 9, 10, 11, 12, 13, 14, 15, 16, 17], [0, 1, 2, 3, 4, 5, 6, 7, 8, 9, 10, 11, 12, 13, 14, 15, 16, 17, 18], [0, 1, 2, 3, 4, 5, 6, 7, 8, 9, 10, 11, 12, 13, 14, 15, 16, 17, 18, 19], [0, 1, 2, 3, 4, 5, 6, 7, 8, 9, 10, 11, 12, 13, 14, 15, 16, 17, 18, 19, 20], [0, 1, 2, 3, 4, 5, 6, 7, 8, 9, 10, 11, 12, 13, 14, 15, 16, 17, 18, 19, 20], [0, 1, 2, 3, 4, 5, 6, 7, 8, 9, 10, 11, 12, 13, 14, 15, 16, 17, 18, 19, 20, 21, 22], [0, 1, 2, 3, 4, 5, 6, 7, 8, 9, 10, 11, 12, 13, 14, 15, 16, 17, 18, 19, 20, 21, 22, 23], [0, 1, 2, 3, 4, 5, 6, 7, 8, 9, 10, 11, 12, 13, 14, 15, 16, 17, 18, 19, 20, 21, 22, 23, 24], [0, 1, 2, 3, 4, 5, 6, 7, 8, 9, 10, 11, 12, 13, 14, 15, 16, 17, 18, 19, 20, 21, 22, 23, 24, 25], [0, 1, 2, 3, 4, 5, 6, 7, 8, 9, 10, 11, 12, 13, 14, 15, 16, 17, 18, 19, 20, 21, 22, 23, 24, 25, 26], [0, 1, 2, 3, 4, 5, 6, 7, 8, 9, 10, 11, 12, 13, 14, 15, 16, 17, 18, 19, 20, 21, 22, 23, 24, 25, 26, 27], [0, 1, 2, 3, 4, 5, 6, 7, 8, 9, 10, 11, 12, 13, 14, 15, 16, 17, 18, 19, 20, 21, 22, 23, 24, 25, 26, 27, 28], [0, 1, 2, 3, 4, 5, 6, 7, 8, 9, 10, 11, 12, 13, 14, 15, 16, 17, 18, 19, 20, 21, 22, 23, 24, 25, 26, 27, 28, 29], [0, 1, 2, 3, 4, 5, 6, 7, 8, 9, 10, 11, 12, 13, 14, 15, 16, 17, 18, 19, 20, 21, 22, 23, 24, 25, 26, 27, 28, 29, 30], [0, 1, 2, 3, 4, 5, 6, 7, 8, 9, 10, 11, 12, 13, 14, 15, 16, 17, 18, 19, 20, 21, 22, 23, 24, 25, 26, 27, 28, 29, 30, 31], [0, 1, 2, 3, 4, 5, 6, 7, 8, 9, 10, 11, 12, 13, 14, 15, 16, 17, 18, 19, 20, 21, 22, 23, 24, 25, 26, 27, 28, 29, 30, 31, 32], [0, 1, 2, 3, 4, 5, 6, 7, 8, 9, 10, 11, 12, 13, 14, 15, 16, 17, 18, 19, 20, 21, 22, 23, 24, 25, 26, 27, 28, 29, 30], [0, 1, 2, 3, 4, 5, 6, 7, 8, 9, 10, 11, 12, 13, 14, 15, 16, 17, 18, 19, 20, 21, 22, 23, 24, 25, 26, 27, 28, 29, 30, 34], [0, 1, 2, 3, 4, 5, 6, 7, 8, 9, 10, 11, 12, 13, 14, 15, 16, 17, 18, 19, 20, 21, 22, 23, 24, 25, 26, 27, 28, 29, 30, 34, 35], [0, 1, 2, 3, 4, 5, 6, 7, 8, 9, 10, 11, 12, 13, 14, 15, 16, 17, 18, 19, 20, 21, 22, 23, 24, 25, 26, 27, 28, 29, 30, 34, 35, 36], [0, 1, 2, 3, 4, 5, 6, 7, 8, 9, 10, 11, 12, 13, 14, 15, 16, 17, 18, 19, 20, 21, 22, 23, 24, 25, 26, 27, 28, 29, 30, 34, 35, 36, 37], [0, 1, 2, 3, 4, 5, 6, 7, 8, 9, 10, 11, 12, 13, 14, 15, 16, 17, 18, 19, 20, 21, 22, 23, 24, 25, 26, 27, 28, 29, 30, 34, 35, 36, 37, 38], [0, 1, 2, 3, 4, 5, 6, 7, 8, 9, 10, 11, 12, 13, 14, 15, 16, 17, 18, 19, 20, 21, 22, 23, 24, 25, 26, 27, 28, 29, 30, 31, 32, 33, 34, 35, 36, 37, 38, 39], [0, 1, 2, 3, 4, 5, 6, 7, 8, 9, 10, 11, 12, 13, 14, 15, 16, 17, 18, 19, 20, 21, 22, 23, 24, 25, 26, 27, 28, 29, 30, 31, 32, 33, 34, 35, 36, 37, 38, 39, 40], [0, 1, 2, 3, 4, 5, 6, 7, 8, 9, 10, 11, 12, 13, 14, 15, 16, 17, 18, 19, 20, 21, 22, 23, 24, 25, 26, 27, 28, 29, 30, 31, 32, 33, 34, 35, 36, 37, 38, 39, 40, 41]] mixed rfl (dw1 1 rfl rfl (Zaa.go (Zac rfl rfl) (Zaf ⟨rfl, ?_⟩))))))));refine dw1 2 rfl rfl (Zaa.go (Zbc rfl rfl rfl) (Zaf ⟨rfl, ?_⟩));refine dw1 3 rfl rfl (Zaa.go (Zac rfl rfl) (Za9 69 rfl (rfl) (Zaf ⟨rfl, ?_⟩)));refine dws (Zah [4, 69] [] rfl rfl (fun _ => ZaV rfl rfl rfl (Zac rfl rfl)) (Zbt [69] [53] [(71, _)] rfl rfl (fun _ => ge_run rfl rfl rfl (ZaJ 53 sl28 rfl rfl rfl rfl rfl rfl rfl rfl)) (.inr ⟨71, _, rfl, rfl, rfl, rfl, rfl⟩) rfl rfl rfl rfl rfl (dwc 5 rfl rfl rfl (dw1 6 rfl rfl (Zal rfl rfl rfl (Zaa.go (st_callPB [53] (same30_p [0, 1, 2] [0, 1, 2] (by decide) (by decide)) (by exact ⟨.inl rfl, .inr ⟨_, _, rfl, .own rfl rfl (by decide) rfl, rfl⟩, trivial⟩) rfl rfl) (Zaf ⟨rfl, ?_⟩)))))));refine dw1 7 rfl rfl (Zaa.go (ZaB rfl rfl rfl rfl) (Zaf ⟨rfl, ?_⟩));refine dw1 8 rfl rfl (Zaa.go (Zac rfl rfl) (Za9 74 rfl (rfl) (Zaf ⟨rfl, ?_⟩)));refine dw1 9 rfl rfl (Zal rfl rfl rfl (Zaa.go (Zac rfl rfl) (Zaf ⟨rfl, ?_⟩)));refine dw1 10 rfl rfl (Zal rfl rfl rfl (Zaa.go (Zbc rfl rfl rfl) (Zaf ⟨rfl, ?_⟩)));refine dw1 11 rfl rfl (Zaa.go (ZaB rfl rfl rfl rfl) (Zaf ⟨rfl, ?_⟩));refine dw1 12 rfl rfl (Zaa.go (Zac rfl rfl) (Za9 78 rfl (rfl) (Zaf ⟨rfl, ?_⟩)));refine dw1 13 rfl rfl (Zal rfl rfl rfl (Zaa.go (Zac rfl rfl) (Zaf ⟨rfl, ?_⟩)));refine dw1 14 rfl rfl (Zal rfl rfl rfl (Zaa.go (ZbI rfl rfl Tryz.underlying28 rfl) (Zaf ⟨rfl, ?_⟩)));refine dw1 15 rfl rfl (Zal rfl rfl rfl (Zaa.go (Zbc rfl rfl rfl) (Zaf ⟨rfl, ?_⟩)));refine dw1 16 rfl rfl (Zaa.go (ZaB rfl rfl rfl rfl) (Zaf ⟨rfl, ?_⟩));refine dw1 17 rfl rfl (Zaa.go (Zac rfl rfl) (Za9 83 rfl (rfl) (Zaf ⟨rfl, ?_⟩)));refine dw1 18 rfl rfl (Zal rfl rfl rfl (Zaa.go (Zac rfl rfl) (Zaf ⟨rfl, ?_⟩)));refine dw1 19 rfl rfl (Zal rfl rfl rfl (Zaa.go (Zbc rfl rfl rfl) (Zaf ⟨rfl, ?_⟩)));refine dw1 20 rfl rfl (Zaa.go (ZaB rfl rfl rfl rfl) (Zaf ⟨rfl, ?_⟩));refine dw1 21 rfl rfl (Zaa.go (Zac rfl rfl) (Za9 87 rfl (rfl) (Zaf ⟨rfl, ?_⟩)));refine dws (Zah [8, 87] [] rfl rfl (fun _ => ZaV rfl rfl rfl (Zac rfl rfl)) (Zbt [87] [54] [(89, _)] rfl rfl (fun _ => ge_run rfl rfl rfl (ZaJ 54 sl28 rfl rfl rfl rfl rfl rfl rfl rfl)) (.inr ⟨89, _, rfl, rfl, rfl, rfl, rfl⟩) rfl rfl rfl rfl rfl (dwc 23 rfl rfl rfl (dw1 24 rfl rfl (Zal rfl rfl rfl (Zaa.go (st_callPB [54] (same30_p [0, 1, 2] [0, 1, 2] (by decide) (by decide)) (by exact ⟨.inl rfl, .inr ⟨_, _, rfl, .own rfl rfl (by decide) rfl, rfl⟩, trivial⟩) rfl rfl) (Zaf ⟨rfl, ?_⟩)))))));refine dw1 25 rfl rfl (Zaa.go (ZaB rfl rfl rfl rfl) (Zaf ⟨rfl, ?_⟩));refine dw1 26 rfl rfl (Zaa.go (Zac rfl rfl) (Za9 92 rfl (rfl) (Zaf ⟨rfl, ?_⟩)));refine dw1 27 rfl rfl (Zal rfl rfl rfl (Zaa.go (Zac rfl rfl) (Zaf ⟨rfl, ?_⟩)));refine dw1 28 rfl rfl (Zal rfl rfl rfl (Zaa.go (ZaD rfl Tryz.underlying42 rfl) (Zaf ⟨rfl, ?_⟩)));refine dw1 29 rfl rfl (Zal rfl rfl rfl (Zaa.go (Zbc rfl rfl rfl) (Zaf ⟨rfl, ?_⟩)));refine dw1 30 rfl rfl (Zaa.go (ZaB rfl rfl rfl rfl) (Zaf ⟨rfl, ?_⟩));refine dw1 31 rfl rfl (Zaa.go (Zac rfl rfl) (Za9 97 rfl (rfl) (Zaf ⟨rfl, ?_⟩)));refine dws (Zah [9, 97] [] rfl rfl (fun _ => ZaV rfl rfl rfl (Zac rfl rfl)) (Zah [98, 97] [] rfl rfl (fun _ => ZaV rfl rfl rfl (Zay (0) rfl rfl (rfl) (rfl) Tryz.underlying42 rfl sz53 rfl)) (Zah [99, 97] [] rfl rfl (fun _ => ZaV rfl rfl rfl (ZaE rfl rfl rw53 rfl)) (Zah [1, 97] [] rfl rfl (fun _ => ZaV rfl rfl rfl (Zai rfl fi35_0 rfl rfl rfl)) (Zao [101, 97] rfl rfl (fun _ => ZaV rfl rfl rfl (Zaj rfl rfl rfl on32 rfl)) ?_)))));refine Zah [102, 97] [] rfl rfl (fun _ => ZaV rfl rfl rfl (Zay (0) rfl rfl (rfl) (rfl) Tryz.underlying32 rfl sz82 rfl)) (Zah [103, 97] [] rfl rfl (fun _ => ZaV rfl rfl rfl (Zax rfl fi82_0 rfl rfl rfl)) (Zah [104, 97] [] rfl rfl (fun _ => ZaV rfl rfl rfl (ZaE rfl rfl rw51 rfl)) (Zah [105, 97] [] rfl rfl (fun _ => ZaV rfl rfl rfl (Za5 zl53 pl53 rfl rfl rfl)) (dwc 40 rfl rfl rfl (dw1 41 rfl rfl (Zal rfl rfl rfl (Zaa.go (st_eqlSt (la := excC ⟨3, 0, rcK 65, -1⟩) (lb := excC ⟨3, 0, rcK 65, -1⟩) (ds := excT) (by kernel_rfl) (by kernel_rfl) (by kernel_rfl) rfl rfl rfl rfl (exc_plain _) (exc_plain _) (exc_eqC _ _) rfl) (Zaf ⟨rfl, ?_⟩))))))));refine dw1 42 rfl rfl (Zaa.go (ZaB rfl rfl rfl rfl) (Zaf ⟨rfl, ?_⟩));refine dw1 43 rfl rfl (Zaa.go (Zad rfl rfl) (Zaf ⟨rfl, ?_⟩));refine dwe (Zav ?_);exact ⟨_, [], [], Zaq rfl, rfl, rfl, by simp, rfl⟩
end Go.Proofs.YtneihdahboilnaaGreat
/- Layer 30: the largest set and the exclusions hold every item once. Plain laws. -/
namespace Go.Proofs.YtneihdahboilnaaGreat
open Go.RowKit

theorem ers_S (ros : List Roo) (its : List Itm) (on : Nat → Bool) : ersN (netS ros its on) = netS ros its on := by
  unfold ersN netS;dsimp only;rw [List.map_map, List.map_map]
  rfl
theorem cntOn_all (n : Nat) : cntOn n (fun _ => true) = n := by
  unfold cntOn;rw [List.filter_eq_self.2 fun _ _ => rfl, List.length_range]
theorem run_len {ros : List Roo} {its : List Itm} (hi : (its.map Itm.id).Nodup) : ∀ (f : Nat) (on : Nat → Bool), (runS ros its f on).1.length + cntOn its.length (runS ros its f on).2 = cntOn its.length on := by
  intro f
  induction f with
  | zero => intro on; show 0 + _ = _; rw [Nat.zero_add]; rfl
  | succ f ih =>
    intro on
    cases hn : nextN (netS ros its on) with
    | none => rw [run_none hn]; show 0 + _ = _; rw [Nat.zero_add]
    | some e =>
      obtain ⟨i, x, hx, hon, hid⟩ := next_on hn;obtain ⟨hiN, hoi, hit⟩ := S_nd_at (ers_S ros its on) hx;rw [hon] at hoi;have hil : i < (its.map Itm.id).length := by rw [List.length_map]; exact hiN
      have hei : (its.map Itm.id)[i] = e.id := by rw [hid, hit, List.getElem_map, ZaT itm0 hiN]
      rw [run_some hn, ← hei, idx_nodup hi hil];have h1 := ih (setOff on i);have h2 := cntOn_off hiN hoi.symm;show (runS ros its f (setOff on i)).1.length + 1 + cntOn its.length (runS ros its f (setOff on i)).2 = cntOn its.length on;omega
theorem large_cnt (p : Prb) : (largeS p).length = cntOn (ordP p).length (explS p).2 := by
  unfold largeS onIds cntOn;rw [List.length_map]
theorem expl_len {p : Prb} (hE : prbE p = 0) : (explS p).1.length + (largeS p).length = p.it.length := by
  have h1 : ordP p = sortO p.it := if_pos hE;have h := run_len (ros := rosS p) (ord_ids hE) (ordP p).length fun _ => true;rw [cntOn_all] at h;rw [large_cnt];unfold explS;rw [h, h1, Zcb]
theorem Zcv {p : Prb} (hE : prbE p = 0) : (largeS p).length ≤ p.it.length := by have := expl_len hE; omega
end Go.Proofs.YtneihdahboilnaaGreat
/- Layer 30: feasible sets of items, and what is left after the largest one has settled. Plain laws. -/
namespace Go.Proofs.YtneihdahboilnaaGreat
open Go.RowKit

theorem rooms_nodup {l : List Roo} (h : roomsE l = 0) : (l.map Roo.r).Nodup := by
  have h0 := ZbG.1 h;rw [List.Nodup, List.pairwise_map, List.pairwise_iff_getElem];intro i j hi hj hij e;have := h0 j (List.mem_range.2 hj);unfold rErr at this;rw [ZaT roo0 hj] at this
  split at this
  · contradiction
  · split at this
    · cases this
    · split at this
      · cases this
      · rename_i hn; exact hn (mem_tk hj hij e)
theorem roomsE_ok {l : List Roo} (h : ∀ o ∈ l, validE o.r = 0 ∧ -4 * Mx ≤ o.n ∧ o.n ≤ 4 * Mx) (hn : (l.map Roo.r).Nodup) : roomsE l = 0 := by
  unfold roomsE;refine ZbG.2 fun k hk => ?_;have hk' := List.mem_range.1 hk;have h1 := h _ (List.getElem_mem hk');unfold rErr;rw [ZaT roo0 hk', if_neg (fun h => h h1.1), if_neg (fun h => h h1.2), if_neg];intro hm;rw [List.map_take] at hm;obtain ⟨j, hj, e⟩ := List.mem_take_iff_getElem.1 hm;rw [List.Nodup, List.pairwise_iff_getElem] at hn;have hj2 : j < k := by omega
  refine hn j k (by rw [List.length_map]; omega) (by rw [List.length_map]; exact hk') hj2 ?_;rw [e, List.getElem_map]
structure Chg (R : Int → Int → Prop) (l Y : List Roo) : Prop where
  len : Y.length = l.length
  at_ : ∀ (j : Nat) x y, l[j]? = some x → Y[j]? = some y → y.r = x.r ∧ -4 * Mx ≤ y.n ∧ y.n ≤ 4 * Mx ∧ R x.n y.n
theorem Chg.set {R : Int → Int → Prop} {l Y : List Roo} (h : Chg R l Y) {k : Nat} (hk : k < Y.length) {n : Int} (h1 : -4 * Mx ≤ n ∧ n ≤ 4 * Mx) (h2 : ∀ x, R x Y[k].n → R x n) : Chg R l (Y.set k ⟨Y[k].r, n⟩) :=
  ⟨by rw [List.length_set]; exact h.len, fun j x y hx hy => by
    rw [List.getElem?_set] at hy
    split at hy
    · rename_i e; subst e
      first | (rw [if_pos hk] at hy; injection hy with hy; subst hy) | (injection hy with hy; subst hy)
      have := h.at_ k x _ hx (List.getElem?_eq_getElem hk);exact ⟨this.1, h1.1, h1.2, h2 _ this.2.2.2⟩
    · exact h.at_ j x y hx hy⟩
theorem Chg.map {R : Int → Int → Prop} {l Y : List Roo} (h : Chg R l Y) : Y.map Roo.r = l.map Roo.r := by
  refine List.ext_getElem (by rw [List.length_map, List.length_map, h.len]) fun j h1 h2 => ?_;rw [List.length_map] at h1 h2;rw [List.getElem_map, List.getElem_map];exact (h.at_ j _ _ (List.getElem?_eq_getElem h2) (List.getElem?_eq_getElem h1)).1
theorem Chg.mem {R : Int → Int → Prop} {l Y : List Roo} (h : Chg R l Y) : ∀ y ∈ Y, ∃ x ∈ l, y.r = x.r ∧ -4 * Mx ≤ y.n ∧ y.n ≤ 4 * Mx ∧ R x.n y.n := fun y hy => by
  obtain ⟨j, hj, rfl⟩ := List.mem_iff_getElem.1 hy;have hj' : j < l.length := by rw [← h.len]; exact hj
  exact ⟨l[j], List.getElem_mem hj', h.at_ j _ _ (List.getElem?_eq_getElem hj') (List.getElem?_eq_getElem hj)⟩
theorem mx_v : Mx = 1000000000000000 := rfl
theorem Chg.b {R : Int → Int → Prop} {l Y : List Roo} (h : Chg R l Y) {k : Nat} (hk : k < Y.length) : -4000000000000000 ≤ Y[k].n ∧ Y[k].n ≤ 4000000000000000 := by
  obtain ⟨x, _, _, h2, h3, _⟩ := h.mem _ (List.getElem_mem hk);rw [mx_v] at h2 h3;exact ⟨by omega, by omega⟩
theorem nodup_take {l : List Int} (hn : l.Nodup) {j : Nat} (hj : j < l.length) : l[j] ∉ l.take j := fun h => by
  obtain ⟨i, hi, e⟩ := List.mem_take_iff_getElem.1 h;rw [List.Nodup, List.pairwise_iff_getElem] at hn;exact hn i j (by omega) hj (by omega) e
theorem items_ok {l : List Itm} (h1 : ∀ i ∈ l, checkE i = 0) (h2 : (l.map Itm.id).Nodup) (h3 : (l.map Itm.sq).Nodup) : itemsE l = 0 := by
  unfold itemsE;refine ZbG.2 fun k hk => ?_;have hk' := List.mem_range.1 hk;have hc := h1 _ (List.getElem_mem hk');unfold iErr;rw [ZaT itm0 hk', if_neg (fun h => h hc), if_neg]
  have key : ∀ f : Itm → Int, (l.map f).Nodup → f l[k] ∉ (l.take k).map f := fun f hn hm => by
    rw [List.map_take] at hm;have hk2 : k < (l.map f).length := by rw [List.length_map]; exact hk'
    have := nodup_take hn hk2;rw [List.getElem_map] at this;exact this hm
  rintro (h | h)
  · exact key _ h2 h
  · exact key _ h3 h
theorem after_ok {l : List Itm} (h : ∀ i ∈ l, ∀ x ∈ i.af, x ∈ l.map Itm.id) : afterE l = 0 := by
  unfold afterE;refine ZbG.2 fun i hi => ?_;unfold fErr;rw [if_neg];intro ha;obtain ⟨x, hx, h1⟩ := List.any_eq_true.1 ha;unfold notIn at h1;rw [decide_eq_true (h i hi x hx)] at h1
  cases h1
theorem after_in {l : List Itm} (h : afterE l = 0) : ∀ i ∈ l, ∀ x ∈ i.af, x ∈ l.map Itm.id := fun i hi x hx => by
  have := ZbG.1 h i hi;unfold fErr at this
  split at this
  · cases this
  · rename_i hn
    refine Classical.byContradiction fun hc => hn (List.any_eq_true.2 ⟨x, hx, ?_⟩);unfold notIn; rw [decide_eq_false hc]; rfl
theorem ord_sort {p : Prb} (hp : prbE p = 0) : ordP p = sortO p.it := if_pos hp
end Go.Proofs.YtneihdahboilnaaGreat
/- Layer 30: the order in which items and rooms are listed. Plain laws. -/
namespace Go.Proofs.YtneihdahboilnaaGreat
open Go.RowKit

def rotL {α : Type} (t : Nat) (l : List α) : List α := l.drop (t % l.length) ++ l.take (t % l.length)
theorem rot_len {α : Type} (t : Nat) (l : List α) : (rotL t l).length = l.length := by
  unfold rotL;rw [List.length_append, List.length_drop, List.length_take]
  by_cases h : l.length = 0
  · rw [h]; simp
  · have := Nat.mod_lt t (Nat.pos_of_ne_zero h); omega
theorem rot_perm {α : Type} (t : Nat) (l : List α) : (rotL t l).Perm l := by
  unfold rotL;exact List.perm_append_comm.trans (List.Perm.of_eq (List.take_append_drop _ l))
theorem rot_at {α : Type} {t i : Nat} {l : List α} (hi : i < l.length) (h1 : i < (rotL t l).length) (h2 : (i + t) % l.length < l.length) : (rotL t l)[i] = l[(i + t) % l.length] := by
  have hm := Nat.mod_lt t (show 0 < l.length by omega);have e : (i + t) % l.length = (i + t % l.length) % l.length := (Nat.add_mod_mod i t l.length).symm
  apply Option.some.inj
  rw [← List.getElem?_eq_getElem h1, ← List.getElem?_eq_getElem h2, e];unfold rotL
  by_cases h : i + t % l.length < l.length
  · rw [List.getElem?_append_left (by rw [List.length_drop]; omega), List.getElem?_drop, Nat.mod_eq_of_lt h, Nat.add_comm]
  · have h4 : (i + t % l.length) % l.length = i + t % l.length - l.length := by
      rw [Nat.mod_eq_sub_mod (by omega), Nat.mod_eq_of_lt (by omega)]
    rw [List.getElem?_append_right (by rw [List.length_drop]; omega), List.length_drop, h4, List.getElem?_take_of_lt (by omega)]
    congr 1; omega
theorem rot_next {α : Type} {t k : Nat} {l acc : List α} (hk : k < l.length) (ha : acc = (rotL t l).take k) (h2 : (k + t) % l.length < l.length) : acc ++ [l[(k + t) % l.length]] = (rotL t l).take (k + 1) := by
  rw [List.take_succ_eq_append_getElem (by rw [rot_len]; exact hk), ha, rot_at hk (by rw [rot_len]; exact hk) h2]
theorem prbE_perm {p q : Prb} (hr : q.ro.Perm p.ro) (hi : q.it.Perm p.it) (hp : prbE p = 0) : prbE q = 0 := by
  obtain ⟨h1, h2, h3⟩ := Zbn hp
  have hn : ¬ (4096 < p.it.length ∨ 16384 < p.ro.length) := fun h => by
    unfold prbE at hp; rw [if_pos h] at hp; cases hp
  have e1 : roomsE q.ro = 0 := roomsE_ok (fun o ho => by
    have ho := hr.mem_iff.1 ho;have := rooms_amt h1 o ho;rw [mx_v]
    exact ⟨Zcr h1 o ho, by omega, by omega⟩) ((hr.map Roo.r).nodup_iff.2 (rooms_nodup h1))
  have e2 : itemsE q.it = 0 := items_ok (fun i h => ZbN h2 i (hi.mem_iff.1 h)) ((hi.map _).nodup_iff.2 (Zcx h2)) ((hi.map _).nodup_iff.2 (Zc6 h2));have e3 : afterE q.it = 0 := after_ok fun i h x hx => (hi.map Itm.id).mem_iff.2 (after_in h3 i (hi.mem_iff.1 h) x hx);unfold prbE;rw [if_neg (by rw [hi.length_eq, hr.length_eq]; exact hn), e1, e2, e3]; rfl
theorem rosS_eq {p q : Prb} (hr : q.ro.Perm p.ro) (hq : prbE q = 0) : rosS q = rosS p := (rosS_one hq ((ZcE p).trans hr.symm) (rosS_sorted p)).symm
theorem sortO_eq {p q : Prb} (hi : q.it.Perm p.it) (hq : prbE q = 0) : sortO q.it = sortO p.it := (ord_one (Zc6 (Zbn hq).2.1) ((Zbe p.it).trans hi.symm) (sortO_sorted p.it)).symm
theorem expl_perm {p q : Prb} (hr : q.ro.Perm p.ro) (hi : q.it.Perm p.it) (hp : prbE p = 0) : explS q = explS p ∧ largeS q = largeS p := by
  have hq := prbE_perm hr hi hp;have e1 := rosS_eq hr hq;have e2 : ordP q = ordP p := by rw [ord_sort hq, ord_sort hp, sortO_eq hi hq]
  have e3 : explS q = explS p := by unfold explS; rw [e1, e2]
  exact ⟨e3, by unfold largeS; rw [e3, e2]⟩
theorem few_perm {p q : Prb} (hr : q.ro.Perm p.ro) (hi : q.it.Perm p.it) (hF : FewP p) : FewP q := ⟨by rw [hi.length_eq]; exact hF.i, by rw [hr.length_eq]; exact hF.r, fun x hx => hF.x x (hi.mem_iff.1 hx)⟩
end Go.Proofs.YtneihdahboilnaaGreat
/- Openers of small numbers. No program in sight. -/
namespace Go.Proofs.YtneihdahboilnaaGreat
open Go.ChangeShapes Go.WideShapes Go.ChangeAt Go.RowKit

section
variable {H : Type} {enc : TypeId × Value → H} {P : Program} {w : World}
theorem openU8 {t : TypeId} (ht : P.underlying t = some (.int .u8)) : OpenT enc P w t 1 (fun n : Nat => .raw (.int .u8 (n : Int))) (fun n => n < 256) :=
  (openInt ht).asQ Int.toNat (fun a ⟨h1, _⟩ => by rw [Int.toNat_of_nonneg h1]) (fun a ⟨h1, h2⟩ => by have : a ≤ 255 := h2; omega)
end
end Go.Proofs.YtneihdahboilnaaGreat
