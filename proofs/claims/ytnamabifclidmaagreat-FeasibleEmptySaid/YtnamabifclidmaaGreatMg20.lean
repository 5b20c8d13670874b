/- Layer 28: Order, Queue, Item. -/
import Derived.Test.YtnamabifclidmaaGreatMg19
namespace Go.Proofs.YtnamabifclidmaaGreat
open Go.RowKit

theorem ordP_len (p : Prb) : (ordP p).length ≤ p.it.length := by unfold ordP; split <;> simp [sortO_len]
theorem ordP_mem {p : Prb} {i : Itm} (h : i ∈ ordP p) : i ∈ p.it := by
  unfold ordP at h; split at h
  · exact (sortO_perm _).mem_iff.1 h
  · cases h
set_option maxRecDepth 100000 in
theorem order_ids_p (p : Prb) (hb : PrbB p) : PCalls Tryz.prog 97 [.d (prbD p)] (.sl none (((ordP p).map Itm.id).map intD)) := by
  have hso := psorted_p p hb;have hlen := ordP_len p;have hb2 := hb.2.1
  obtain ⟨S, hS⟩ : ∃ S, ordP p = S := ⟨_, rfl⟩
  rw [hS] at hso hlen ⊢;refine ZaB Tryz.func97 rfl rfl Tryz.ntmps97 rfl rfl rfl fun F hF => ?_;refine Zaf ?_;refine Zab ?_;refine Zam.go (ZaR 1 rfl rfl rfl rfl rfl rfl rfl) ?_;refine Zaa.go (Zac rfl rfl) ?_;refine Zae ?_;refine Zaf ?_;refine Zab ?_;refine Zaa.go (Zac rfl rfl) ?_;refine Zae ?_;refine Zaf ?_;refine Zaf ?_;refine a_adopt 3 900 sl26 rfl rfl rfl rfl ?_;refine Zab ?_
  first | refine Zaa.go (ZaI rfl rfl rw35 rfl) ?_ | refine Zaa.go (Zas rfl rfl rw35 rfl rfl rfl) ?_ | refine Zaa.go (Zbk rfl rfl (rfl) rfl rw35 rfl) ?_
  refine Zaa.go (Zay (hso) rfl rfl) ?_
  first | refine Zaa.go (Zau rfl Tryz.underlying33 rfl) ?_ | refine Zaa.go (Zbq rfl rfl Tryz.underlying33 rfl) ?_ | refine Zaa.go (Zbp rfl Tryz.underlying33 rfl) ?_ | refine Zaa.go (Zbs rfl Tryz.underlying33 rfl) ?_ | refine Zaa.go (Zbw rfl Tryz.underlying33 rfl) ?_
  refine Zaa.go (Zad rfl rfl) ?_;refine Zae ?_;refine Zap ?_;refine ZaN (α := Nat × List Int) (fun q => ⟨20, [(3, (.own 900 0 q.2.length)), (7, (.d (.sl none (S.map itmD)))), (8, (.d (intD (S.length : Int)))), (9, (.d (intD (q.1 : Int))))], [(900, [.rowD 3 1 (q.2.map intD)])]⟩) (fun q => q.1 ≤ S.length ∧ q.2 = (S.take q.1).map Itm.id) (fun q => S.length - q.1) ((0, [])) (⟨Nat.zero_le _, rfl⟩) (Zav hF [900] rfl rfl ⟨rfl, rfl, rfl, rfl, trivial⟩) ?_;rintro ⟨k, acc⟩ ⟨hk0, hA⟩;dsimp only at hk0 hA ⊢;refine Zaf ?_;refine Zab ?_
  first | refine Zaa.go (ZaH rfl rfl rfl) ?_ | refine Zaa.go (ZbD rfl rfl rfl) ?_
  refine Zae ?_;refine Zaf ?_
  first | refine ZaC rfl (fun h10 => ?_) (fun h10 => ?_) | refine Zba rfl (fun h10 => ?_) (fun h10 => ?_)
  · have hk1 : k < S.length := ZaJ h10;refine Zar ?_;refine Zaf ?_;refine Zap ?_;refine Zaf ?_;refine Zab ?_;have hal : acc.length ≤ 100000 := by rw [hA, List.length_map, List.length_take]; omega
    first | refine Zaa.go (Zaw (k) rfl rfl (rfl) (getm hk1) Tryz.underlying33 rfl sz100 rfl) ?_ | refine Zaa.go (Zbe (k) rfl rfl (rfl) (getm hk1) rfl Tryz.underlying33 sz100 rfl) ?_
    first | refine Zaa.go (ZaI rfl rfl rw100 rfl) ?_ | refine Zaa.go (Zas rfl rfl rw100 rfl rfl rfl) ?_ | refine Zaa.go (Zbk rfl rfl (rfl) rfl rw100 rfl) ?_
    refine Zam.go (ZaU 2 zl100 rfl rfl rfl rfl) ?_;refine Zam.go (ZaG rfl rfl rfl rfl rfl rfl rfl sz100) ?_;refine Zae ?_;refine Zab ?_;refine Zaa.go (Zad rfl rfl) ?_
    first | refine Zaa.go (Zah rfl ZbP rfl rfl rfl) ?_ | refine Zaa.go (ZaE rfl ZbP rfl rfl rfl) ?_ | refine Zaa.go (ZaP rfl ZbP rfl rfl rfl) ?_ | refine Zaa.go (ZaY rfl ZbP rfl rfl rfl) ?_
    first | refine Zaa.go (Zax rfl rfl on3 rfl) ?_ | refine Zaa.go (Zak rfl rfl rfl on3 rfl) ?_ | refine Zaa.go (ZaQ rfl rfl (rfl) rfl on3 rfl) ?_
    refine Zam.go (ZaD 3 sl26 rfl rfl rfl rfl rfl rfl rfl rfl) ?_
    first | refine Zam.go (Zbg (acc) ([S[k].id]) rfl rfl rfl rfl rfl rfl rfl rfl sl26 (by simp only [List.length_singleton]; omega) rfl rfl rfl rfl) ?_ | refine Zam.go (Zbu (acc) ([S[k].id]) rfl rfl rfl rfl rfl rfl (fun _ => rfl) sl26 (by simp only [List.length_singleton]; omega) rfl rfl rfl rfl) ?_
    refine Zaa.go (Zac rfl rfl) ?_;refine Zae ?_;refine Zab ?_;refine Zaa.go (ZaA rfl rfl (wrapS (k + 1) (by omega)) rfl) ?_;refine Zaa.go (Zad rfl rfl) ?_;refine Zae ?_;exact ⟨(k + 1, _), ⟨by show k + 1 ≤ _; omega, by show _ = (S.take (k + 1)).map Itm.id; rw [tk_map hk1, ← hA]⟩, by show S.length - (k + 1) < S.length - k; omega, Zav hF [900] rfl (rfl) ⟨rfl, rfl, rfl, rfl, trivial⟩⟩
  · refine ZaM ?_;refine Zaf ?_;refine ZbW (emb := intD) 3 900 acc rfl rfl rfl rfl rfl rfl rfl ?_;refine Zab ?_;refine Zaa.go (Zad rfl rfl) ?_;refine Zaa.go (Zac rfl rfl) ?_;refine Zae ?_;refine Zao ?_;exact ⟨_, [], [], Zan rfl, rfl, rfl, by rw [hA, List.take_of_length_le (by have h := h10; omega)], rfl⟩
set_option maxRecDepth 100000 in
theorem queue_p (p : Prb) (r : Rsc) (hb : PrbB p) : PCalls Tryz.prog 98 [.d (prbD p), .d (rscD r)] (.sl none ((qIds (ordP p) r).map intD)) := by
  have hso := psorted_p p hb;have hlen := ordP_len p;have hb2 := hb.2.1;have hmem : ∀ i ∈ ordP p, i.po.length ≤ 100000 ∧ i.pa.length ≤ 100000 ∧ i.af.length ≤ 100000 := fun i hi => hb.2.2 i (ordP_mem hi)
  obtain ⟨S, hS⟩ : ∃ S, ordP p = S := ⟨_, rfl⟩
  rw [hS] at hso hlen hmem ⊢;refine ZaB Tryz.func98 rfl rfl Tryz.ntmps98 rfl rfl rfl fun F hF => ?_;refine Zaf ?_;refine Zab ?_;refine Zam.go (ZaR 1 rfl rfl rfl rfl rfl rfl rfl) ?_;refine Zam.go (ZaR 2 rfl rfl rfl rfl rfl rfl rfl) ?_;refine Zaa.go (Zac rfl rfl) ?_;refine Zae ?_;refine Zaf ?_;refine Zab ?_;refine Zaa.go (Zac rfl rfl) ?_;refine Zae ?_;refine Zaf ?_;refine Zaf ?_;refine a_adopt 5 900 sl26 rfl rfl rfl rfl ?_;refine Zab ?_
  first | refine Zaa.go (ZaI rfl rfl rw35 rfl) ?_ | refine Zaa.go (Zas rfl rfl rw35 rfl rfl rfl) ?_ | refine Zaa.go (Zbk rfl rfl (rfl) rfl rw35 rfl) ?_
  refine Zaa.go (Zay (hso) rfl rfl) ?_
  first | refine Zaa.go (Zau rfl Tryz.underlying33 rfl) ?_ | refine Zaa.go (Zbq rfl rfl Tryz.underlying33 rfl) ?_ | refine Zaa.go (Zbp rfl Tryz.underlying33 rfl) ?_ | refine Zaa.go (Zbs rfl Tryz.underlying33 rfl) ?_ | refine Zaa.go (Zbw rfl Tryz.underlying33 rfl) ?_
  refine Zaa.go (Zad rfl rfl) ?_;refine Zae ?_;refine Zap ?_;refine ZaN (α := Nat × List Int) (fun q => ⟨26, [(3, (.ptr 2 0 0)), (5, (.own 900 0 q.2.length)), (9, (.d (.sl none (S.map itmD)))), (10, (.d (intD (S.length : Int)))), (11, (.d (intD (q.1 : Int))))], [(2, [.blk 47 [.d (intD r.k), .d (strD r.acc.o), .d (intD r.acc.k), .d (strD r.acc.a), .d (strD r.f), .d (strD r.t)]]), (900, [.rowD 3 1 (q.2.map intD)])]⟩) (fun q => q.1 ≤ S.length ∧ q.2 = qIds (S.take q.1) r) (fun q => S.length - q.1) ((0, [])) (⟨Nat.zero_le _, rfl⟩) (Zav hF [2, 900] rfl rfl ⟨rfl, rfl, rfl, rfl, rfl, trivial⟩) ?_;rintro ⟨k, acc⟩ ⟨hk0, hA⟩;dsimp only at hk0 hA ⊢;refine Zaf ?_;refine Zab ?_
  first | refine Zaa.go (ZaH rfl rfl rfl) ?_ | refine Zaa.go (ZbD rfl rfl rfl) ?_
  refine Zae ?_;refine Zaf ?_
  first | refine ZaC rfl (fun h12 => ?_) (fun h12 => ?_) | refine Zba rfl (fun h12 => ?_) (fun h12 => ?_)
  · have hk1 : k < S.length := ZaJ h12;refine Zar ?_;refine Zaf ?_;refine Zap ?_;refine Zaf ?_;refine Zab ?_;have hgi := hmem _ (List.getElem_mem hk1);have hal : acc.length ≤ 100000 := by rw [hA]; unfold qIds; rw [List.length_map]; have := List.length_filter_le (fun i => decide (dltE i r < 0)) (S.take k); rw [List.length_take] at this; omega
    first | refine Zaa.go (Zaw (k) rfl rfl (rfl) (getm hk1) Tryz.underlying33 rfl sz100 rfl) ?_ | refine Zaa.go (Zbe (k) rfl rfl (rfl) (getm hk1) rfl Tryz.underlying33 sz100 rfl) ?_
    first | refine Zaa.go (ZaI rfl rfl rw100 rfl) ?_ | refine Zaa.go (Zas rfl rfl rw100 rfl rfl rfl) ?_ | refine Zaa.go (Zbk rfl rfl (rfl) rfl rw100 rfl) ?_
    refine Zam.go (ZaU 3 zl100 rfl rfl rfl rfl) ?_;refine Zam.go (ZaG rfl rfl rfl rfl rfl rfl rfl sz100) ?_;refine Zae ?_;refine Zaf ?_;refine Zab ?_
    first | refine Zaa.go (ZaI rfl rfl rw100 rfl) ?_ | refine Zaa.go (Zas rfl rfl rw100 rfl rfl rfl) ?_ | refine Zaa.go (Zbk rfl rfl (rfl) rfl rw100 rfl) ?_
    first | refine Zaa.go (ZaI rfl rfl rw47 rfl) ?_ | refine Zaa.go (Zas rfl rfl rw47 rfl rfl rfl) ?_ | refine Zaa.go (Zbk rfl rfl (rfl) rfl rw47 rfl) ?_
    refine Zaa.go (Zay (delta_p S[k] r (by omega) (by omega) (by omega)) rfl rfl) ?_
    first | refine Zaa.go (ZaH rfl rfl rfl) ?_ | refine Zaa.go (ZbD rfl rfl rfl) ?_
    refine Zae ?_
    first | refine ZaC rfl (fun h18 => ?_) (fun h18 => ?_) | refine Zba rfl (fun h18 => ?_) (fun h18 => ?_)
    · refine Zab ?_;refine Zaa.go (Zad rfl rfl) ?_
      first | refine Zaa.go (Zah rfl ZbP rfl rfl rfl) ?_ | refine Zaa.go (ZaE rfl ZbP rfl rfl rfl) ?_ | refine Zaa.go (ZaP rfl ZbP rfl rfl rfl) ?_ | refine Zaa.go (ZaY rfl ZbP rfl rfl rfl) ?_
      first | refine Zaa.go (Zax rfl rfl on3 rfl) ?_ | refine Zaa.go (Zak rfl rfl rfl on3 rfl) ?_ | refine Zaa.go (ZaQ rfl rfl (rfl) rfl on3 rfl) ?_
      refine Zam.go (ZaD 4 sl26 rfl rfl rfl rfl rfl rfl rfl rfl) ?_
      first | refine Zam.go (Zbg (acc) ([S[k].id]) rfl rfl rfl rfl rfl rfl rfl rfl sl26 (by simp only [List.length_singleton]; omega) rfl rfl rfl rfl) ?_ | refine Zam.go (Zbu (acc) ([S[k].id]) rfl rfl rfl rfl rfl rfl (fun _ => rfl) sl26 (by simp only [List.length_singleton]; omega) rfl rfl rfl rfl) ?_
      refine Zaa.go (Zac rfl rfl) ?_;refine Zae ?_;refine Zab ?_;refine Zaa.go (ZaA rfl rfl (wrapS (k + 1) (by omega)) rfl) ?_;refine Zaa.go (Zad rfl rfl) ?_;refine Zae ?_;exact ⟨(k + 1, _), ⟨by show k + 1 ≤ _; omega, by show _ = qIds (S.take (k + 1)) r; unfold qIds; rw [flt_snoc hk1, if_pos (by simpa using h18), List.map_append, hA]; rfl⟩, by show S.length - (k + 1) < S.length - k; omega, Zav hF [2, 900] rfl (rfl) ⟨rfl, rfl, rfl, rfl, rfl, trivial⟩⟩
    · refine Zar ?_;refine Zab ?_;refine Zaa.go (ZaA rfl rfl (wrapS (k + 1) (by omega)) rfl) ?_;refine Zaa.go (Zad rfl rfl) ?_;refine Zae ?_;exact ⟨(k + 1, _), ⟨by show k + 1 ≤ _; omega, by show _ = qIds (S.take (k + 1)) r; unfold qIds; rw [flt_snoc hk1, if_neg (by simpa using h18), List.append_nil, hA]; rfl⟩, by show S.length - (k + 1) < S.length - k; omega, Zav hF [2, 900] rfl (rfl) ⟨rfl, rfl, rfl, rfl, rfl, trivial⟩⟩
  · refine ZaM ?_;refine Zaf ?_;refine ZbW (emb := intD) 5 900 acc rfl rfl rfl rfl rfl rfl rfl ?_;refine Zab ?_;refine Zaa.go (Zad rfl rfl) ?_;refine Zaa.go (Zac rfl rfl) ?_;refine Zae ?_;refine Zao ?_;exact ⟨_, [], [], Zan rfl, rfl, rfl, by rw [hA, List.take_of_length_le (by have h := h12; omega)], rfl⟩
end Go.Proofs.YtnamabifclidmaaGreat

/- Layer 28: Item. -/
namespace Go.Proofs.YtnamabifclidmaaGreat
open Go.RowKit

end Go.Proofs.YtnamabifclidmaaGreat

/- Layer 28, plain: items by id. -/
namespace Go.Proofs.YtnamabifclidmaaGreat
open Go.RowKit

theorem items_ids {l : List Itm} (h : itemsE l = 0) : (l.map Itm.id).Nodup := by
  have h0 := ZbV.1 h;rw [List.Nodup, List.pairwise_map, List.pairwise_iff_getElem];intro i j hi hj hij e;have := h0 j (List.mem_range.2 hj);unfold iErr at this;rw [ZbB itm0 hj] at this
  split at this
  · contradiction
  · split at this
    · cases this
    · rename_i hn
      exact hn (.inl (mem_tk hj hij e))
end Go.Proofs.YtnamabifclidmaaGreat
/- Layer 28: conversion of problems; the law of problems' checks. -/
namespace Go.Proofs.YtnamabifclidmaaGreat
open Go.RowKit

set_option maxRecDepth 100000 in
theorem own_p (p : Prb) (h : Sml p) : PCalls Tryz.prog 16 [.d (prbD p)] (prbD p) := by
  obtain ⟨g1, g2, g3⟩ := h;refine ZaB Tryz.func16 rfl rfl Tryz.ntmps16 rfl rfl rfl fun F hF => ?_;refine Zaf ?_;refine Zab ?_;refine Zam.go (ZaR 1 rfl rfl rfl rfl rfl rfl rfl) ?_;refine Zam.go (ZaU 2 zl35 rfl rfl rfl rfl) ?_;refine Zae ?_;refine Zaf ?_;refine Zab ?_;refine Zam.go (ZaU 3 zl35 rfl rfl rfl rfl) ?_;refine Zae ?_;refine Zaf ?_;refine Zaf ?_;refine ZbN 3 0 0 901 sl32 rfl rfl rfl rfl rfl rfl rfl ?_;refine Zab ?_;refine Zaa.go (Zac rfl rfl) ?_;refine Zae ?_;refine Zap ?_;refine ZaN (α := List Roo) (fun acc => ⟨51, [(1, (.ptr 1 0 0)), (2, (.ptr 2 0 0)), (3, (.ptr 3 0 0)), (4, (.d (intD (acc.length : Int))))], [(901, [.rowD 70 7 (acc.map rooD)]), (1, [prbB2 25 p]), (2, [.blk 35 [nilC, nilC]]), (3, [.blk 35 [.own 901 0 acc.length, nilC]])]⟩) (fun acc => acc = p.ro.take acc.length ∧ acc.length ≤ p.ro.length) (fun acc => p.ro.length - acc.length) ([]) (⟨by simp, Nat.zero_le _⟩) (Zav hF [901, 1, 2, 3] rfl rfl ⟨rfl, rfl, rfl, rfl, trivial⟩) ?_;rintro acc ⟨hI, hk0⟩;refine Zaf ?_;refine Zaf ?_;refine Zab ?_;refine Zaa.go (Zad rfl rfl) ?_;refine Zaa.go (Zah rfl fi25_0 rfl rfl rfl) ?_;refine Zaa.go (Zak rfl rfl rfl on22 rfl) ?_;refine Zaa.go (Zau rfl Tryz.underlying22 rfl) ?_;refine Zaa.go (ZaH rfl rfl rfl) ?_;refine Zae ?_;refine ZaC rfl (fun h10 => ?_) (fun h10 => ?_)
  · have hk1 : acc.length < p.ro.length := ZaJ h10;refine Zar ?_;refine Zaf ?_;refine Zap ?_;refine ZaW [[], [0], [], [2], [], [2, 3, 4], [2, 3, 4, 5], [2, 3, 4, 5, 6], [2, 3, 4, 5, 6, 7], [], [9], [], [9, 10, 11], [9, 10, 11, 12], [9, 10, 11, 12, 13], [2, 3, 4, 5, 6, 7, 8, 9, 10, 11, 12, 13, 14], [2, 3, 4, 5, 6, 7, 8, 9, 10, 11, 12, 13, 14, 15], [0, 1, 2, 3, 4, 5, 6, 7, 8, 9, 10, 11, 12, 13, 14, 15, 16], [0, 1, 2, 3, 4, 5, 6, 7, 8, 9, 10, 11, 12, 13, 14, 15, 16, 17], [0, 1, 2, 3, 4, 5, 6, 7, 8, 9, 10, 11, 12, 13, 14, 15, 16, 17, 18]] mixed rfl ?_;refine dws ?_;refine Zaj [3] [] rfl rfl (fun _ => Zag (Zah rfl fi35_0 rfl rfl rfl)) ?_;refine Zaq [13] rfl rfl (fun _ => Zag (Zak rfl rfl rfl on32 rfl)) ?_;refine Zaj [1] [] rfl rfl (fun _ => Zag (Zah rfl fi25_0 rfl rfl rfl)) ?_;refine Zaq [15] rfl rfl (fun _ => Zag (Zak rfl rfl rfl on22 rfl)) ?_;refine Zaj [4] [] rfl rfl (fun _ => Zag (Zad rfl rfl)) ?_;refine Zaj [16, 17] [] rfl rfl (fun _ => Zag (Zaw (acc.length) rfl rfl (rfl) (getm hk1) Tryz.underlying22 rfl sz104 rfl)) ?_;refine Zaj [18] [] rfl rfl (fun _ => Zag (ZaP rfl fi104_0 rfl rfl rfl)) ?_;refine Zaj [19] [] rfl rfl (fun _ => Zag (ZaI rfl rfl rw52 rfl)) ?_;refine Zaj [20] [] rfl rfl (fun _ => Zag (Zay (ownres_p p.ro[acc.length].r) rfl rfl)) ?_;refine Zaj [1] [] rfl rfl (fun _ => Zag (Zah rfl fi25_0 rfl rfl rfl)) ?_;refine Zaq [22] rfl rfl (fun _ => Zag (Zak rfl rfl rfl on22 rfl)) ?_;refine Zaj [4] [] rfl rfl (fun _ => Zag (Zad rfl rfl)) ?_;refine Zaj [23, 24] [] rfl rfl (fun _ => Zag (Zaw (acc.length) rfl rfl (rfl) (getm hk1) Tryz.underlying22 rfl sz104 rfl)) ?_;refine Zaj [25] [] rfl rfl (fun _ => Zag (ZaE rfl fi104_1 rfl rfl rfl)) ?_;refine Zaj [26] [] rfl rfl (fun _ => Zag (Zax rfl rfl on2 rfl)) ?_;refine Zaj [21, 27] [] rfl rfl (fun _ => Zag (ZaX zl70 pl70 rfl rfl rfl)) ?_;refine Zbl [28] [50] [(29, _)] rfl rfl (fun _ => Zbd (ZaD 50 sl32 rfl rfl rfl rfl rfl rfl rfl rfl)) (.inr ⟨29, _, rfl, rfl, rfl, rfl, rfl⟩) rfl rfl rfl rfl rfl ?_;refine dwc 17 rfl rfl rfl ?_;refine dw1 18 rfl rfl ?_;refine Zam.go (Zbg (acc) ([p.ro[acc.length]]) rfl rfl rfl rfl rfl rfl rfl rfl sl32 (by simp only [List.length_singleton]; omega) rfl rfl rfl rfl) ?_;refine Zae ⟨rfl, ?_⟩;refine dw1 19 rfl rfl ?_;refine Zaa.go (Zah rfl fi35_0 rfl rfl rfl) ?_;refine Zae ⟨rfl, ?_⟩;refine dw1 20 rfl rfl ?_;refine Zam.go (ZaG rfl rfl rfl rfl rfl rfl rfl sz32) ?_;refine Zae ⟨rfl, ?_⟩;refine dwe ?_;refine Zab ?_;refine Zaa.go (Zad rfl rfl) ?_;refine Zaa.go (ZaA rfl rfl (wrapA acc p.ro[acc.length] (by omega)) rfl) ?_;refine Zaa.go (Zac rfl rfl) ?_;refine Zae ?_;exact ⟨acc ++ [p.ro[acc.length]], ⟨tk_next hI hk1, by rw [List.length_append]; show acc.length + 1 ≤ _; omega⟩, by rw [List.length_append]; show p.ro.length - (acc.length + 1) < p.ro.length - acc.length; omega, Zav hF [901, 1, 2, 3] rfl (rfl) ⟨rfl, rfl, rfl, rfl, trivial⟩⟩
  · refine ZaM ?_;refine Zaf ?_;refine Zaf ?_;have hacc := tk_end hI (fun h => h10 (by omega));refine Zbv (ys := p.ro.map rooD) 3 0 0 901 rfl rfl rfl (by simp) (by rw [hacc]; exact List.take_of_length_le (by simp)) rfl rfl rfl rfl rfl rfl ?_;refine ZbN 3 0 1 902 sl33 rfl rfl rfl rfl rfl rfl rfl ?_;refine Zab ?_;refine Zaa.go (Zac rfl rfl) ?_;refine Zae ?_;refine Zap ?_;refine ZaN (α := List Itm) (fun acc2 => ⟨51, [(1, (.ptr 1 0 0)), (2, (.ptr 2 0 0)), (3, (.ptr 3 0 0)), (5, (.d (intD (acc2.length : Int))))], [(902, [.rowD 100 6 (acc2.map itmD)]), (1, [prbB2 25 p]), (2, [.blk 35 [nilC, nilC]]), (3, [.blk 35 [.d (.sl none (p.ro.map rooD)), .own 902 0 acc2.length]])]⟩) (fun acc2 => acc2 = p.it.take acc2.length ∧ acc2.length ≤ p.it.length) (fun acc2 => p.it.length - acc2.length) ([]) (⟨by simp, Nat.zero_le _⟩) (Zav hF [902, 1, 2, 3] rfl rfl ⟨rfl, rfl, rfl, rfl, trivial⟩) ?_;rintro acc2 ⟨hJ, hk2⟩;refine Zaf ?_;refine Zaf ?_;refine Zab ?_;refine Zaa.go (Zad rfl rfl) ?_;refine Zaa.go (Zah rfl Zbn rfl rfl rfl) ?_;refine Zaa.go (Zak rfl rfl rfl on23 rfl) ?_;refine Zaa.go (Zau rfl Tryz.underlying23 rfl) ?_;refine Zaa.go (ZaH rfl rfl rfl) ?_;refine Zae ?_;refine ZaC rfl (fun h36 => ?_) (fun h36 => ?_)
    · have hk3 : acc2.length < p.it.length := ZaJ h36;refine Zar ?_;refine Zaf ?_;refine Zap ?_;refine ZaW [[], [0], [], [2], [], [2, 3, 4], [2, 3, 4, 5], [2, 3, 4, 5, 6], [2, 3, 4, 5, 6, 7], [0, 1, 2, 3, 4, 5, 6, 7, 8], [0, 1, 2, 3, 4, 5, 6, 7, 8, 9], [0, 1, 2, 3, 4, 5, 6, 7, 8, 9, 10]] mixed rfl ?_;refine dws ?_;refine Zaj [3] [] rfl rfl (fun _ => Zag (Zah rfl fi35_1 rfl rfl rfl)) ?_;refine Zaq [39] rfl rfl (fun _ => Zag (Zak rfl rfl rfl on33 rfl)) ?_;refine Zaj [1] [] rfl rfl (fun _ => Zag (Zah rfl Zbn rfl rfl rfl)) ?_;refine Zaq [41] rfl rfl (fun _ => Zag (Zak rfl rfl rfl on23 rfl)) ?_;refine Zaj [5] [] rfl rfl (fun _ => Zag (Zad rfl rfl)) ?_;have hgi := g3 _ (List.getElem_mem hk3);refine Zaj [42, 43] [] rfl rfl (fun _ => Zag (Zaw (acc2.length) rfl rfl (rfl) (getm hk3) Tryz.underlying23 rfl sz80 rfl)) ?_;refine Zaj [44] [] rfl rfl (fun _ => Zag (ZaI rfl rfl rw80 rfl)) ?_;refine Zaj [45] [] rfl rfl (fun _ => Zag (Zay (ownitem_p p.it[acc2.length] (by omega) (by omega) (by omega)) rfl rfl)) ?_;refine Zbl [46] [51] [(47, _)] rfl rfl (fun _ => Zbd (ZaD 51 sl33 rfl rfl rfl rfl rfl rfl rfl rfl)) (.inr ⟨47, _, rfl, rfl, rfl, rfl, rfl⟩) rfl rfl rfl rfl rfl ?_;refine dwc 9 rfl rfl rfl ?_;refine dw1 10 rfl rfl ?_;refine Zam.go (Zbg (acc2) ([p.it[acc2.length]]) rfl rfl rfl rfl rfl rfl rfl rfl sl33 (by simp only [List.length_singleton]; omega) rfl rfl rfl rfl) ?_;refine Zae ⟨rfl, ?_⟩;refine dw1 11 rfl rfl ?_;refine Zaa.go (Zah rfl fi35_1 rfl rfl rfl) ?_;refine Zae ⟨rfl, ?_⟩;refine dw1 12 rfl rfl ?_;refine Zam.go (ZaG rfl rfl rfl rfl rfl rfl rfl sz33) ?_;refine Zae ⟨rfl, ?_⟩;refine dwe ?_;refine Zab ?_;refine Zaa.go (Zad rfl rfl) ?_;refine Zaa.go (ZaA rfl rfl (wrapA acc2 p.it[acc2.length] (by omega)) rfl) ?_;refine Zaa.go (Zac rfl rfl) ?_;refine Zae ?_;exact ⟨acc2 ++ [p.it[acc2.length]], ⟨tk_next hJ hk3, by rw [List.length_append]; show acc2.length + 1 ≤ _; omega⟩, by rw [List.length_append]; show p.it.length - (acc2.length + 1) < p.it.length - acc2.length; omega, Zav hF [902, 1, 2, 3] rfl (rfl) ⟨rfl, rfl, rfl, rfl, trivial⟩⟩
    · refine ZaM ?_;refine Zaf ?_;have hacc2 := tk_end hJ (fun h => h36 (by omega));refine Zbv (ys := p.it.map itmD) 3 0 1 902 rfl rfl rfl (by simp) (by rw [hacc2]; exact List.take_of_length_le (by simp)) rfl rfl rfl rfl rfl rfl ?_;refine Zab ?_;refine Zaa.go (Zas rfl rfl rw35 rfl rfl rfl) ?_;refine Zam.go (ZaG rfl rfl rfl rfl rfl rfl rfl sz35) ?_;refine Zae ?_;refine Zao ?_;exact ⟨_, [], [], Zan rfl, rfl, rfl, rfl, rfl⟩
theorem sml_B {p : Prb} (h : Sml p) : PrbB p := ⟨by have := h.2.1; omega, by have := h.1; omega, fun i hi => by have := h.2.2 i hi; omega⟩
end Go.Proofs.YtnamabifclidmaaGreat
/- Layer 28: chosen sets; the rooms after a set has settled. -/
namespace Go.Proofs.YtnamabifclidmaaGreat
open Go.RowKit

def chErr (ids l : List Int) (k : Nat) : Int := if l.getD k 0 ∉ ids then 9 else if l.getD k 0 ∈ l.take k then 7 else 0
def setE (ids l : List Int) : Int := fst0 ((List.range l.length).map (chErr ids l))
def choE (p : Prb) (l : List Int) : Int := if prbE p ≠ 0 then prbE p else setE (p.it.map Itm.id) l
theorem set_ok {ids l : List Int} (h : setE ids l = 0) : l.Nodup ∧ ∀ x ∈ l, x ∈ ids := by
  have h0 := ZbV.1 h;refine ⟨List.pairwise_iff_getElem.2 fun i j hi hj hij e => ?_, fun x hx => ?_⟩
  · have := h0 j (List.mem_range.2 hj);unfold chErr at this;rw [ZbB 0 hj] at this
    split at this
    · cases this
    · split at this
      · cases this
      · rename_i hn; exact hn (by rw [← e, List.mem_take_iff_getElem]; exact ⟨i, by omega, rfl⟩)
  · obtain ⟨j, hj, rfl⟩ := List.getElem_of_mem hx;have := h0 j (List.mem_range.2 hj);unfold chErr at this;rw [ZbB 0 hj] at this
    split at this
    · cases this
    · rename_i hn; exact Decidable.not_not.1 hn
end Go.Proofs.YtnamabifclidmaaGreat
/- Layer 28: Totals. -/
namespace Go.Proofs.YtnamabifclidmaaGreat
open Go.RowKit

theorem ctrSum_cons (x : Rsc × Int) (l : List (Rsc × Int)) (r : Rsc) : ctrSum (x :: l) r = (if x.1 = r then x.2 else 0) + ctrSum l r := by simp [ctrSum]
theorem ctrSum_none {l : List (Rsc × Int)} {r : Rsc} (h : r ∉ l.map Prod.fst) : ctrSum l r = 0 := by
  induction l with
  | nil => rfl
  | cons x l ih =>
    rw [List.map_cons, List.mem_cons] at h;rw [ctrSum_cons, if_neg (fun e => h (.inl e.symm)), ih (fun h' => h (.inr h'))]; rfl
theorem lft_len {α β : Type} {m : List (α × β)} {B seen : List Nat} : (lft m B seen).length ≤ m.length := by
  unfold lft;rw [List.length_map];refine Nat.le_trans (List.length_filter_le _ _) ?_;rw [List.length_zip]; omega
theorem bnd_sum {i : Itm} (h : checkE i = 0) (r : Rsc) : -Mx ≤ ctrSum (ctr i) r ∧ ctrSum (ctr i) r ≤ Mx := by
  have hb := (check_ok h).2.2.2.2.2.2.2.2;unfold bndE at hb
  split at hb
  · cases hb
  · rename_i hn
    by_cases hr : r ∈ (sumL (ctr i)).map Prod.fst
    · obtain ⟨⟨r', v⟩, hx, e⟩ := List.mem_map.1 hr;have e : r' = r := e;subst e;have hv := ((sumL_mem _ _ _).1 hx).2;rw [← hv];exact Decidable.not_not.1 fun hh => hn ⟨_, hx, hh⟩
    · rw [ctrSum_none fun h' => hr ((sumL_keys _ r).2 h')]; simp only [Mx]; omega
theorem rooms_amt {l : List Roo} (h : roomsE l = 0) : ∀ x ∈ l, -4000000000000000 ≤ x.n ∧ x.n ≤ 4000000000000000 := fun x hx => by
  have h0 := ZbV.1 h;obtain ⟨j, hj, rfl⟩ := List.getElem_of_mem hx;have := h0 j (List.mem_range.2 hj);unfold rErr at this;rw [ZbB roo0 hj] at this
  split at this
  · contradiction
  · split at this
    · cases this
    · rename_i hn; simp only [Mx] at hn; omega
end Go.Proofs.YtnamabifclidmaaGreat
/- Layer 28: Settle. -/
namespace Go.Proofs.YtnamabifclidmaaGreat
open Go.RowKit

end Go.Proofs.YtnamabifclidmaaGreat
/- Layer 28: Settle, continued. -/
namespace Go.Proofs.YtnamabifclidmaaGreat
open Go.RowKit

set_option maxRecDepth 100000 in
theorem cloneI_c (l : List Int) (hl : l.length ≤ 1000000) : ACalls Tryz.prog 94 [.d (.sl none (l.map intD))] [] fun r H' => r = .own 20 0 l.length ∧ H' = [(20, [.rowD 3 1 (l.map intD)])] := by
  refine ZaB Tryz.func94 rfl rfl Tryz.ntmps94 rfl rfl rfl fun F hF => ?_;refine Zaf ?_;refine Zab ?_;refine Zaa.go (Zac rfl rfl) ?_;skip;refine Zae ?_;refine Zaf ?_;refine Zaf ?_;refine Zab ?_;refine Zaa.go (Zad rfl rfl) ?_;refine o_nilSplit 3 rfl (fun h0 => ?_) ?_
  · first | refine Zaa.go (Za8 rfl rfl rfl) ?_ | refine Zaa.go (Za2 rfl rfl rfl) ?_ | refine Zaa.go (st_eqlS rfl rfl rfl) ?_ | refine Zaa.go (st_eqlB Tryz.underlying26 rfl rfl rfl) ?_ | refine Zaa.go (st_eqlP Tryz.underlying26 rfl rfl rfl) ?_ | refine Zaa.go (st_eqlN Tryz.underlying26 rfl rfl) ?_ | refine Zaa.go (st_eqlF Tryz.underlying26 rfl rfl rfl) ?_ | refine Zaa.go (st_eqlFN Tryz.underlying26 rfl rfl) ?_
    refine Zae ?_;refine ZaS rfl (rfl) ?_;refine Zaf ?_;refine Zab ?_;refine Zaa.go (Zac rfl rfl) ?_;refine o_adopt 2 20 sl26 rfl rfl rfl rfl ?_;refine Zae ?_;refine Zao ?_;exact ⟨_, [20], _, Zan rfl, rfl, rfl, by rw [← List.length_map (f := intD), h0]; rfl, by rw [h0]⟩
  · first | refine Zaa.go (Za8 rfl rfl rfl) ?_ | refine Zaa.go (Za2 rfl rfl rfl) ?_ | refine Zaa.go (st_eqlS rfl rfl rfl) ?_ | refine Zaa.go (st_eqlB Tryz.underlying26 rfl rfl rfl) ?_ | refine Zaa.go (st_eqlP Tryz.underlying26 rfl rfl rfl) ?_ | refine Zaa.go (st_eqlN Tryz.underlying26 rfl rfl) ?_ | refine Zaa.go (st_eqlF Tryz.underlying26 rfl rfl rfl) ?_ | refine Zaa.go (st_eqlFN Tryz.underlying26 rfl rfl) ?_
    refine Zae ?_;refine Za5 rfl (rfl) ?_;refine Zar ?_;refine Zaf ?_;refine Zab ?_;refine Zam.go (ZaD 20 sl26 rfl rfl rfl rfl rfl rfl rfl rfl) ?_;refine Zaa.go (Zad rfl rfl) ?_
    first | refine Zam.go (Zbg (([] : List Int)) (l) rfl rfl rfl rfl rfl rfl rfl rfl sl26 (by simp only [List.length_nil]; omega) rfl rfl rfl rfl) ?_ | refine Zam.go (Zbu (([] : List Int)) (l) rfl rfl rfl rfl rfl rfl (fun _ => rfl) sl26 (by simp only [List.length_nil]; omega) rfl rfl rfl rfl) ?_
    refine Zaa.go (Zac rfl rfl) ?_;skip;refine Zae ?_;refine Zao ?_;exact ⟨_, [20], _, Zan rfl, rfl, rfl, by simp, by simp⟩
end Go.Proofs.YtnamabifclidmaaGreat
/- Layer 28: the reference's Totals and Settle; conversion back. -/
namespace Go.Proofs.YtnamabifclidmaaGreat
open Go.RowKit

def itmOf (p : Prb) (id : Int) : Itm := p.it.getD ((p.it.map Itm.id).idxOf id) itm0
theorem itmOf_at {p : Prb} {id : Int} (h : id ∈ p.it.map Itm.id) : ∃ hk : (p.it.map Itm.id).idxOf id < p.it.length, ixI id (p.it.map Itm.id) = (((p.it.map Itm.id).idxOf id : Nat) : Int) ∧ itmOf p id = p.it[(p.it.map Itm.id).idxOf id] ∧ (itmOf p id).id = id := by
  have hk : (p.it.map Itm.id).idxOf id < (p.it.map Itm.id).length := List.idxOf_lt_length_iff.2 h;have hk' : (p.it.map Itm.id).idxOf id < p.it.length := by simpa using hk
  have he : itmOf p id = p.it[(p.it.map Itm.id).idxOf id] := ZbB itm0 hk';refine ⟨hk', if_pos h, he, ?_⟩;have h1 := List.getElem_idxOf hk;rw [List.getElem_map] at h1;rw [he]; exact h1
theorem perm_sum {α : Type} {l m : List α} (h : l.Perm m) (f : α → Int) : (l.map f).sum = (m.map f).sum := by
  induction h with
  | nil => rfl
  | cons x _ ih => simp [ih]
  | swap x y l => simp; omega
  | trans _ _ ih1 ih2 => rw [ih1, ih2]
end Go.Proofs.YtnamabifclidmaaGreat
