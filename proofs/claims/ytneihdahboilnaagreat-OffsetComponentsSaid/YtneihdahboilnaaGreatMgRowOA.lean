/- Proved here: offsetComponents_holds, the given statement Rows.OffsetComponentsSaid: the law girolaw30.OffsetComponents returns true and does not panic, at every input that the statement speaks of; no condition beyond the statement. -/
/- 'girolaw30.OffsetComponents': for every input the law returns true, and each argument reads behind the call as it read before. No condition. -/
import Derived.Test.YtneihdahboilnaaGreatMg27
namespace Go.Proofs.YtneihdahboilnaaGreat
open Go.RowKit
theorem few_both {a b : Prb} (ha : FewQ a 12) (hb : FewQ b 12) : FewP (bothP a b) := by
  have hc := few_ap (few_of hb (by decide));refine ⟨?_, ?_, fun x hx => ?_⟩
  · show (a.it ++ b.it.map apI).length ≤ 30;rw [List.length_append, List.length_map]; have := ha.1; have := hb.1; omega
  · show (a.ro ++ b.ro.map apO).length ≤ 100;rw [List.length_append, List.length_map]; have := ha.2.1; have := hb.2.1; omega
  · rcases List.mem_append.1 hx with h | h
    · exact ha.2.2 x h
    · exact hc.x x h
set_option maxRecDepth 100000 in
set_option maxHeartbeats 1000000 in
theorem lawOA_p (a b : Prb) (hLa : PrbL a) (hLb : PrbL b) : PCalls Tryz.prog 9 [.d (prbD a), .d (prbD b)] (.raw (.bool true)) := by
  have hk := known30_p;have sa := few_p a 12 (by decide);have sb := few_p b 12 (by decide)
  by_cases hfa : FewQ a 12
  · rw [decide_eq_true hfa] at sa;have hFa := few_of hfa (by decide);have ca := refpcheck_p a (by have := hFa.r; omega) (by have := hFa.i; omega) (fun i hi => by have := hFa.x i hi; omega)
    by_cases hfb : FewQ b 12
    · rw [decide_eq_true hfb] at sb;have hFb := few_of hfb (by decide);have cb := refpcheck_p b (by have := hFb.r; omega) (by have := hFb.i; omega) (fun i hi => by have := hFb.x i hi; omega)
      by_cases hpa : prbE a = 0
      · rw [hpa] at ca
        by_cases hpb : prbE b = 0
        · rw [hpb] at cb;have ct := tilde_p a hFa hLa
          by_cases hu : Unm a
          · rw [decide_eq_false (fun h => h hu)] at ct;have hFp := few_both hfa hfb;have cap := apart_p b hFb hLb hpb;have g1 := hfa.2.1;have g2 := hfb.2.1;have g3 := hfa.1;have g4 := hfb.1;have cp := refpcheck_p (bothP a b) (by have := hFp.r; omega) (by have := hFp.i; omega) (fun i hi => by have := hFp.x i hi; omega);have oa := own30_p a hFa;have ob := own30_p b hFb;have op := own30_p (bothP a b) hFp;have la := largest_ok a hFa hpa;have lb := largest_ok b hFb hpb;have lp := fun h => largest_ok (bothP a b) hFp h;have law := fun h => comp_law hpa hpb hu h hFa hFb hFp;have lla := large_len hpa;have llb := large_len hpb
            have hib : ∀ y ∈ largeS b, 0 ≤ y ∧ y ≤ 1000000000 := fun y hy => by
              obtain ⟨i, hi, rfl⟩ := List.mem_map.1 (large_ids hpb hy);exact (check_ok (Zcn (ZbC hpb).2.1 i hi)).2.1
            obtain ⟨LA, hLA⟩ : ∃ L, largeS a = L := ⟨_, rfl⟩
            obtain ⟨LB2, hLB⟩ : ∃ L, largeS b = L := ⟨_, rfl⟩
            obtain ⟨LP, hLP⟩ : ∃ L, largeS (bothP a b) = L := ⟨_, rfl⟩
            rw [hLA] at la lla;rw [hLB] at lb llb hib;rw [hLP] at lp;rw [hLA, hLB, hLP] at law
            have cs : prbE (bothP a b) = 0 → PCalls Tryz.prog 24 [.d (.sl none (LA.map intD)), .d (.sl none (LP.map intD))] (boolD true) := fun h => by
              have h1 := (law h).1;have h2 := subset30_p LA LP (by omega) (by omega);rw [decide_eq_true (law h).2.1] at h2; exact h2
            have ch : prbE (bothP a b) = 0 → ∀ y ∈ LB2, PCalls Tryz.prog 29 [.d (.sl none (LP.map intD)), .d (intD (y + 1000000))] (boolD true) := fun h y hy => by
              have h1 := (law h).1;have h2 := has30_p LP (y + 1000000) (by omega);rw [decide_eq_true ((law h).2.2 y hy)] at h2; exact h2
            have law1 := fun h => (law h).1;refine ZaG Tryz.func9 rfl rfl Tryz.ntmps9 rfl rfl rfl fun F hF => ?_;refine Zae (Zab (Zaj.go (Za0 1 rfl rfl rfl rfl rfl rfl rfl) (Zaj.go (Za0 2 rfl rfl rfl rfl rfl rfl rfl) (goAs rfl rfl (Zac (Zae (Zae (Zab ?_))))))))
            first | refine Zaa.go (ZaC rfl rfl rw25 rfl) ?_ | refine Zaa.go (Zav rfl rfl rw25 rfl rfl rfl) ?_ | refine Zaa.go (ZaX rfl rfl (rfl) rfl rw25 rfl) ?_
            refine Zaa.go (Zax (sa) rfl rfl) ?_
            first | refine Zaa.go (Zbo rfl rfl) ?_ | refine Zaa.go (ZbK rfl rfl) ?_
            refine goMv rfl rfl (ZbX 17 rfl (rfl) (Zak rfl rfl rfl ?_))
            first | refine Zaa.go (ZaC rfl rfl rw25 rfl) ?_ | refine Zaa.go (Zav rfl rfl rw25 rfl rfl rfl) ?_ | refine Zaa.go (ZaX rfl rfl (rfl) rfl rw25 rfl) ?_
            refine Zak rfl rfl rfl (Zaa.go (Zax (sb) rfl rfl) (Zak rfl rfl rfl ?_))
            first | refine Zaa.go (Zbo rfl rfl) ?_ | refine Zaa.go (ZbK rfl rfl) ?_
            refine Zaa.go (ZaB rfl rfl rfl rfl) (goMv rfl rfl (ZbX 22 rfl (rfl) (Zak rfl rfl rfl ?_)))
            first | refine Zaa.go (ZaC rfl rfl rw25 rfl) ?_ | refine Zaa.go (Zav rfl rfl rw25 rfl rfl rfl) ?_ | refine Zaa.go (ZaX rfl rfl (rfl) rfl rw25 rfl) ?_
            refine Zak rfl rfl rfl (Zaa.go (Zax (ca) rfl rfl) (Zak rfl rfl rfl ?_))
            first | refine Zaa.go (Zbf rfl rfl rfl) ?_ | refine Zaa.go (Zbi rfl rfl rfl) ?_ | refine Zaa.go (ZbL rfl rfl rfl) ?_ | refine Zaa.go (ZbQ Tryz.underlying3 rfl rfl rfl) ?_ | refine Zaa.go (ZbO Tryz.underlying3 rfl rfl rfl) ?_ | refine Zaa.go (st_neqN Tryz.underlying3 rfl rfl) ?_ | refine Zaa.go (ZbP Tryz.underlying3 rfl rfl rfl) ?_ | refine Zaa.go (st_neqFN Tryz.underlying3 rfl rfl) ?_
            refine Zaa.go (ZaB rfl rfl rfl rfl) (goMv rfl rfl (ZbX 27 rfl (rfl) (Zak rfl rfl rfl ?_)))
            first | refine Zaa.go (ZaC rfl rfl rw25 rfl) ?_ | refine Zaa.go (Zav rfl rfl rw25 rfl rfl rfl) ?_ | refine Zaa.go (ZaX rfl rfl (rfl) rfl rw25 rfl) ?_
            refine Zak rfl rfl rfl (Zaa.go (Zax (cb) rfl rfl) (Zak rfl rfl rfl ?_))
            first | refine Zaa.go (Zbf rfl rfl rfl) ?_ | refine Zaa.go (Zbi rfl rfl rfl) ?_ | refine Zaa.go (ZbL rfl rfl rfl) ?_ | refine Zaa.go (ZbQ Tryz.underlying3 rfl rfl rfl) ?_ | refine Zaa.go (ZbO Tryz.underlying3 rfl rfl rfl) ?_ | refine Zaa.go (st_neqN Tryz.underlying3 rfl rfl) ?_ | refine Zaa.go (ZbP Tryz.underlying3 rfl rfl rfl) ?_ | refine Zaa.go (st_neqFN Tryz.underlying3 rfl rfl) ?_
            refine Zaa.go (ZaB rfl rfl rfl rfl) (goMv rfl rfl (ZbX 32 rfl (rfl) (Zak rfl rfl rfl ?_)))
            first | refine Zaa.go (ZaC rfl rfl rw25 rfl) ?_ | refine Zaa.go (Zav rfl rfl rw25 rfl rfl rfl) ?_ | refine Zaa.go (ZaX rfl rfl (rfl) rfl rw25 rfl) ?_
            refine Zak rfl rfl rfl (Zaa.go (Zax (ct) rfl rfl) (Zaa.go (ZaB rfl rfl rfl rfl) (Zac (Zbm rfl (rfl) (Zar (Zae (Zab ?_)))))))
            first | refine Zaa.go (ZaC rfl rfl rw25 rfl) ?_ | refine Zaa.go (Zav rfl rfl rw25 rfl rfl rfl) ?_ | refine Zaa.go (ZaX rfl rfl (rfl) rfl rw25 rfl) ?_
            refine Zaa.go (Zax (cap) rfl rfl) (Zaj.go (ZaV 3 zl25 rfl rfl rfl rfl) (Zaj.go (ZaA rfl rfl rfl rfl rfl rfl rfl sz25) (Zac (Zae (Za5 [[], [], [1], [0, 1, 2], [], [4], [0, 1, 2, 3, 4, 5], [], [], [8], [0, 1, 2, 3, 4, 5, 6, 7, 8, 9], [], [11], [0, 1, 2, 3, 4, 5, 6, 7, 8, 9, 10, 11, 12], [0, 1, 2, 3, 4, 5, 6, 7, 8, 9, 10, 11, 12, 13], [], [0, 1, 2, 3, 4, 5, 6, 7, 8, 9, 10, 11, 12, 13, 14, 15]] mixed rfl (dws (Zbv [] [50] [(39, _)] rfl rfl (fun _ => Zbd (ZaJ 50 sl22 rfl rfl rfl rfl rfl rfl rfl rfl)) (.inr ⟨39, _, rfl, rfl, rfl, rfl, rfl⟩) rfl rfl rfl rfl rfl ?_)))))))
            first | refine Zaf [2] [] rfl rfl (fun _ => Zad (Zag rfl ZaS rfl rfl rfl)) ?_ | refine Zal [2] rfl rfl (fun _ => Zad (Zag rfl ZaS rfl rfl rfl)) ?_ | refine Zaf [2] [] rfl rfl (fun _ => Zad (Zap rfl ZaS rfl rfl rfl)) ?_ | refine Zal [2] rfl rfl (fun _ => Zad (Zap rfl ZaS rfl rfl rfl)) ?_ | refine Zaf [2] [] rfl rfl (fun _ => Zad (Zas rfl ZaS rfl rfl rfl)) ?_ | refine Zal [2] rfl rfl (fun _ => Zad (Zas rfl ZaS rfl rfl rfl)) ?_ | refine Zaf [2] [] rfl rfl (fun _ => Zad (Zaw rfl ZaS rfl rfl rfl)) ?_ | refine Zal [2] rfl rfl (fun _ => Zad (Zaw rfl ZaS rfl rfl rfl)) ?_ | refine Zaf [2] [] rfl rfl (fun _ => Zad (Zan rfl ZaS rfl rfl rfl)) ?_ | refine Zal [2] rfl rfl (fun _ => Zad (Zan rfl ZaS rfl rfl rfl)) ?_
            first | refine Zaf [40] [1] rfl rfl (fun _ => Zad (Zat rfl rfl on22 rfl)) ?_ | refine Zaf [40] [1] rfl rfl (fun _ => Zad (Zah rfl rfl rfl on22 rfl)) ?_ | refine Zaf [40] [1] rfl rfl (fun _ => Zad (ZaK rfl rfl (rfl) rfl on22 rfl)) ?_
            first | refine Zbv [39, 41] [50] [(42, _)] rfl rfl (fun _ => Zbd (Zbp (([] : List Roo)) (a.ro) rfl rfl rfl rfl rfl rfl rfl rfl sl22 (by simp only [List.length_nil]; omega) rfl rfl rfl rfl)) (.inr ⟨42, _, rfl, rfl, rfl, rfl, rfl⟩) rfl rfl rfl rfl rfl ?_ | refine Zbv [39, 41] [50] [(42, _)] rfl rfl (fun _ => Zbd (Zbw (([] : List Roo)) (a.ro) rfl rfl rfl rfl rfl rfl (fun _ => rfl) sl22 (by simp only [List.length_nil]; omega) rfl rfl rfl rfl)) (.inr ⟨42, _, rfl, rfl, rfl, rfl, rfl⟩) rfl rfl rfl rfl rfl ?_
            first | refine Zaf [5] [] rfl rfl (fun _ => Zad (Zag rfl ZaS rfl rfl rfl)) ?_ | refine Zal [5] rfl rfl (fun _ => Zad (Zag rfl ZaS rfl rfl rfl)) ?_ | refine Zaf [5] [] rfl rfl (fun _ => Zad (Zap rfl ZaS rfl rfl rfl)) ?_ | refine Zal [5] rfl rfl (fun _ => Zad (Zap rfl ZaS rfl rfl rfl)) ?_ | refine Zaf [5] [] rfl rfl (fun _ => Zad (Zas rfl ZaS rfl rfl rfl)) ?_ | refine Zal [5] rfl rfl (fun _ => Zad (Zas rfl ZaS rfl rfl rfl)) ?_ | refine Zaf [5] [] rfl rfl (fun _ => Zad (Zaw rfl ZaS rfl rfl rfl)) ?_ | refine Zal [5] rfl rfl (fun _ => Zad (Zaw rfl ZaS rfl rfl rfl)) ?_ | refine Zaf [5] [] rfl rfl (fun _ => Zad (Zan rfl ZaS rfl rfl rfl)) ?_ | refine Zal [5] rfl rfl (fun _ => Zad (Zan rfl ZaS rfl rfl rfl)) ?_
            first | refine Zaf [43] [3] rfl rfl (fun _ => Zad (Zat rfl rfl on22 rfl)) ?_ | refine Zaf [43] [3] rfl rfl (fun _ => Zad (Zah rfl rfl rfl on22 rfl)) ?_ | refine Zaf [43] [3] rfl rfl (fun _ => Zad (ZaK rfl rfl (rfl) rfl on22 rfl)) ?_
            first | refine d_effX [39] [42, 44] [50] [(45, _)] rfl rfl (fun _ => Zbd (Zbp (([] ++ a.ro)) (b.ro.map apO) rfl rfl rfl rfl rfl rfl rfl rfl sl22 (by simp only [List.nil_append, List.length_map]; omega) rfl rfl rfl rfl)) (.inr ⟨45, _, rfl, rfl, rfl, rfl, rfl⟩) rfl rfl rfl rfl rfl ?_ | refine d_effX [39] [42, 44] [50] [(45, _)] rfl rfl (fun _ => Zbd (Zbw (([] ++ a.ro)) (b.ro.map apO) rfl rfl rfl rfl rfl rfl (fun _ => rfl) sl22 (by simp only [List.nil_append, List.length_map]; omega) rfl rfl rfl rfl)) (.inr ⟨45, _, rfl, rfl, rfl, rfl, rfl⟩) rfl rfl rfl rfl rfl ?_
            refine Zbv [] [51] [(46, _)] rfl rfl (fun _ => Zbd (ZaJ 51 sl23 rfl rfl rfl rfl rfl rfl rfl rfl)) (.inr ⟨46, _, rfl, rfl, rfl, rfl, rfl⟩) rfl rfl rfl rfl rfl ?_
            first | refine Zaf [2] [] rfl rfl (fun _ => Zad (Zag rfl ZaY rfl rfl rfl)) ?_ | refine Zal [2] rfl rfl (fun _ => Zad (Zag rfl ZaY rfl rfl rfl)) ?_ | refine Zaf [2] [] rfl rfl (fun _ => Zad (Zap rfl ZaY rfl rfl rfl)) ?_ | refine Zal [2] rfl rfl (fun _ => Zad (Zap rfl ZaY rfl rfl rfl)) ?_ | refine Zaf [2] [] rfl rfl (fun _ => Zad (Zas rfl ZaY rfl rfl rfl)) ?_ | refine Zal [2] rfl rfl (fun _ => Zad (Zas rfl ZaY rfl rfl rfl)) ?_ | refine Zaf [2] [] rfl rfl (fun _ => Zad (Zaw rfl ZaY rfl rfl rfl)) ?_ | refine Zal [2] rfl rfl (fun _ => Zad (Zaw rfl ZaY rfl rfl rfl)) ?_ | refine Zaf [2] [] rfl rfl (fun _ => Zad (Zan rfl ZaY rfl rfl rfl)) ?_ | refine Zal [2] rfl rfl (fun _ => Zad (Zan rfl ZaY rfl rfl rfl)) ?_
            first | refine Zaf [47] [1] rfl rfl (fun _ => Zad (Zat rfl rfl on23 rfl)) ?_ | refine Zaf [47] [1] rfl rfl (fun _ => Zad (Zah rfl rfl rfl on23 rfl)) ?_ | refine Zaf [47] [1] rfl rfl (fun _ => Zad (ZaK rfl rfl (rfl) rfl on23 rfl)) ?_
            first | refine Zbv [46, 48] [51] [(49, _)] rfl rfl (fun _ => Zbd (Zbp (([] : List Itm)) (a.it) rfl rfl rfl rfl rfl rfl rfl rfl sl23 (by simp only [List.length_nil]; omega) rfl rfl rfl rfl)) (.inr ⟨49, _, rfl, rfl, rfl, rfl, rfl⟩) rfl rfl rfl rfl rfl ?_ | refine Zbv [46, 48] [51] [(49, _)] rfl rfl (fun _ => Zbd (Zbw (([] : List Itm)) (a.it) rfl rfl rfl rfl rfl rfl (fun _ => rfl) sl23 (by simp only [List.length_nil]; omega) rfl rfl rfl rfl)) (.inr ⟨49, _, rfl, rfl, rfl, rfl, rfl⟩) rfl rfl rfl rfl rfl ?_
            first | refine Zaf [5] [] rfl rfl (fun _ => Zad (Zag rfl ZaY rfl rfl rfl)) ?_ | refine Zal [5] rfl rfl (fun _ => Zad (Zag rfl ZaY rfl rfl rfl)) ?_ | refine Zaf [5] [] rfl rfl (fun _ => Zad (Zap rfl ZaY rfl rfl rfl)) ?_ | refine Zal [5] rfl rfl (fun _ => Zad (Zap rfl ZaY rfl rfl rfl)) ?_ | refine Zaf [5] [] rfl rfl (fun _ => Zad (Zas rfl ZaY rfl rfl rfl)) ?_ | refine Zal [5] rfl rfl (fun _ => Zad (Zas rfl ZaY rfl rfl rfl)) ?_ | refine Zaf [5] [] rfl rfl (fun _ => Zad (Zaw rfl ZaY rfl rfl rfl)) ?_ | refine Zal [5] rfl rfl (fun _ => Zad (Zaw rfl ZaY rfl rfl rfl)) ?_ | refine Zaf [5] [] rfl rfl (fun _ => Zad (Zan rfl ZaY rfl rfl rfl)) ?_ | refine Zal [5] rfl rfl (fun _ => Zad (Zan rfl ZaY rfl rfl rfl)) ?_
            first | refine Zaf [50] [3] rfl rfl (fun _ => Zad (Zat rfl rfl on23 rfl)) ?_ | refine Zaf [50] [3] rfl rfl (fun _ => Zad (Zah rfl rfl rfl on23 rfl)) ?_ | refine Zaf [50] [3] rfl rfl (fun _ => Zad (ZaK rfl rfl (rfl) rfl on23 rfl)) ?_
            first | refine d_effX [46] [49, 51] [51] [(52, _)] rfl rfl (fun _ => Zbd (Zbp (([] ++ a.it)) (b.it.map apI) rfl rfl rfl rfl rfl rfl rfl rfl sl23 (by simp only [List.nil_append, List.length_map]; omega) rfl rfl rfl rfl)) (.inr ⟨52, _, rfl, rfl, rfl, rfl, rfl⟩) rfl rfl rfl rfl rfl ?_ | refine d_effX [46] [49, 51] [51] [(52, _)] rfl rfl (fun _ => Zbd (Zbw (([] ++ a.it)) (b.it.map apI) rfl rfl rfl rfl rfl rfl (fun _ => rfl) sl23 (by simp only [List.nil_append, List.length_map]; omega) rfl rfl rfl rfl)) (.inr ⟨52, _, rfl, rfl, rfl, rfl, rfl⟩) rfl rfl rfl rfl rfl ?_
            first | refine Zaf [45, 52] [] rfl rfl (fun _ => Zad (Za2 zl25 pl25 rfl rfl rfl)) ?_ | refine Zal [45, 52] rfl rfl (fun _ => Zad (Za2 zl25 pl25 rfl rfl rfl)) ?_
            refine Zbv [] [6] [(6, _)] rfl rfl (fun _ => Zbd (ZaV 6 zl25 rfl rfl rfl rfl)) (.inr ⟨6, _, rfl, rfl, rfl, rfl, rfl⟩) rfl rfl rfl rfl rfl (dwc 16 rfl rfl rfl (dw1 17 rfl rfl (Zaj.go (ZaA rfl rfl rfl rfl rfl rfl rfl sz25) (Zac ⟨rfl, ?_⟩))));refine dwe (Zae (Zae (Zb0 (ys := (bothP a b).ro.map rooD) 6 0 0 50 rfl rfl rfl (by simp) (List.take_of_length_le (by simp)) rfl rfl rfl rfl rfl rfl (Zb0 (ys := (bothP a b).it.map itmD) 6 0 1 51 rfl rfl rfl (by simp) (List.take_of_length_le (by simp)) rfl rfl rfl rfl rfl rfl (Zab ?_)))))
            first | refine Zaa.go (ZaC rfl rfl rw25 rfl) ?_ | refine Zaa.go (Zav rfl rfl rw25 rfl rfl rfl) ?_ | refine Zaa.go (ZaX rfl rfl (rfl) rfl rw25 rfl) ?_
            refine Zaa.go (Zax (cp) rfl rfl) ?_
            by_cases hpc : prbE (bothP a b) = 0
            · first | refine Zaa.go (Zbf rfl rfl rfl) ?_ | refine Zaa.go (Zbi rfl rfl rfl) ?_ | refine Zaa.go (ZbL rfl rfl rfl) ?_ | refine Zaa.go (ZbQ Tryz.underlying3 rfl rfl rfl) ?_ | refine Zaa.go (ZbO Tryz.underlying3 rfl rfl rfl) ?_ | refine Zaa.go (st_neqN Tryz.underlying3 rfl rfl) ?_ | refine Zaa.go (ZbP Tryz.underlying3 rfl rfl rfl) ?_ | refine Zaa.go (st_neqFN Tryz.underlying3 rfl rfl) ?_
              refine Zac (Zbm rfl ((by simp [hpc])) (Zar (Zae ?_)));have lpc := lp hpc;have csc := cs hpc;have chc := ch hpc;have lwc := law1 hpc;refine Zab ?_
              first | refine Zaa.go (ZaC rfl rfl rw25 rfl) ?_ | refine Zaa.go (Zav rfl rfl rw25 rfl rfl rfl) ?_ | refine Zaa.go (ZaX rfl rfl (rfl) rfl rw25 rfl) ?_
              refine Zaa.go (Zax (oa) rfl rfl) (Zaa.go (Zax (la) rfl rfl) (goMv rfl rfl ?_))
              first | refine Zaa.go (Za3 rfl rfl rfl) ?_ | refine Zaa.go (Zbc rfl rfl rfl) ?_
              first | refine Zaa.go (Za3 rfl rfl rfl) ?_ | refine Zaa.go (Zbc rfl rfl rfl) ?_
              refine goAs rfl rfl (goAs rfl rfl (Zac (Zae (Zab ?_))))
              first | refine Zaa.go (ZaC rfl rfl rw25 rfl) ?_ | refine Zaa.go (Zav rfl rfl rw25 rfl rfl rfl) ?_ | refine Zaa.go (ZaX rfl rfl (rfl) rfl rw25 rfl) ?_
              refine Zaa.go (Zax (ob) rfl rfl) (Zaa.go (Zax (lb) rfl rfl) (goMv rfl rfl ?_))
              first | refine Zaa.go (Za3 rfl rfl rfl) ?_ | refine Zaa.go (Zbc rfl rfl rfl) ?_
              first | refine Zaa.go (Za3 rfl rfl rfl) ?_ | refine Zaa.go (Zbc rfl rfl rfl) ?_
              refine goAs rfl rfl (goAs rfl rfl (Zac (Zae (Zab ?_))))
              first | refine Zaa.go (ZaC rfl rfl rw25 rfl) ?_ | refine Zaa.go (Zav rfl rfl rw25 rfl rfl rfl) ?_ | refine Zaa.go (ZaX rfl rfl (rfl) rfl rw25 rfl) ?_
              refine Zaa.go (Zax (op) rfl rfl) (Zaa.go (Zax (lpc) rfl rfl) (goMv rfl rfl ?_))
              first | refine Zaa.go (Za3 rfl rfl rfl) ?_ | refine Zaa.go (Zbc rfl rfl rfl) ?_
              first | refine Zaa.go (Za3 rfl rfl rfl) ?_ | refine Zaa.go (Zbc rfl rfl rfl) ?_
              refine goAs rfl rfl (goAs rfl rfl (Zac (Zae (Zae (Zab (goMv rfl rfl ?_))))))
              first | refine Zaa.go (Zbf rfl rfl rfl) ?_ | refine Zaa.go (Zbi rfl rfl rfl) ?_ | refine Zaa.go (ZbL rfl rfl rfl) ?_ | refine Zaa.go (ZbQ Tryz.underlying29 rfl rfl rfl) ?_ | refine Zaa.go (ZbO Tryz.underlying29 rfl rfl rfl) ?_ | refine Zaa.go (st_neqN Tryz.underlying29 rfl rfl) ?_ | refine Zaa.go (ZbP Tryz.underlying29 rfl rfl rfl) ?_ | refine Zaa.go (st_neqFN Tryz.underlying29 rfl rfl) ?_
              refine goMv rfl rfl (ZbX 78 rfl (rfl) (Zak rfl rfl rfl (goMv rfl rfl (Zak rfl rfl rfl ?_))))
              first | refine Zaa.go (Zbf rfl rfl rfl) ?_ | refine Zaa.go (Zbi rfl rfl rfl) ?_ | refine Zaa.go (ZbL rfl rfl rfl) ?_ | refine Zaa.go (ZbQ Tryz.underlying29 rfl rfl rfl) ?_ | refine Zaa.go (ZbO Tryz.underlying29 rfl rfl rfl) ?_ | refine Zaa.go (st_neqN Tryz.underlying29 rfl rfl) ?_ | refine Zaa.go (ZbP Tryz.underlying29 rfl rfl rfl) ?_ | refine Zaa.go (st_neqFN Tryz.underlying29 rfl rfl) ?_
              refine Zaa.go (ZaB rfl rfl rfl rfl) (goMv rfl rfl (ZbX 82 rfl (rfl) (Zak rfl rfl rfl (goMv rfl rfl (Zak rfl rfl rfl ?_)))))
              first | refine Zaa.go (Zbf rfl rfl rfl) ?_ | refine Zaa.go (Zbi rfl rfl rfl) ?_ | refine Zaa.go (ZbL rfl rfl rfl) ?_ | refine Zaa.go (ZbQ Tryz.underlying29 rfl rfl rfl) ?_ | refine Zaa.go (ZbO Tryz.underlying29 rfl rfl rfl) ?_ | refine Zaa.go (st_neqN Tryz.underlying29 rfl rfl) ?_ | refine Zaa.go (ZbP Tryz.underlying29 rfl rfl rfl) ?_ | refine Zaa.go (st_neqFN Tryz.underlying29 rfl rfl) ?_
              refine Zaa.go (ZaB rfl rfl rfl rfl) (goMv rfl rfl (ZbX 86 rfl (rfl) (Zak rfl rfl rfl (goMv rfl rfl (Zak rfl rfl rfl ?_)))))
              first | refine Zaa.go (ZaD rfl Tryz.underlying28 rfl) ?_ | refine Zaa.go (Zb2 rfl rfl Tryz.underlying28 rfl) ?_ | refine Zaa.go (Zb6 rfl Tryz.underlying28 rfl) ?_ | refine Zaa.go (ZbY rfl Tryz.underlying28 rfl) ?_ | refine Zaa.go (Zb1 rfl Tryz.underlying28 rfl) ?_ | refine Zaa.go (Zb5 rfl Tryz.underlying28 rfl) ?_
              refine Zak rfl rfl rfl (goMv rfl rfl (Zak rfl rfl rfl ?_))
              first | refine Zaa.go (ZaD rfl Tryz.underlying28 rfl) ?_ | refine Zaa.go (Zb2 rfl rfl Tryz.underlying28 rfl) ?_ | refine Zaa.go (Zb6 rfl Tryz.underlying28 rfl) ?_ | refine Zaa.go (ZbY rfl Tryz.underlying28 rfl) ?_ | refine Zaa.go (Zb1 rfl Tryz.underlying28 rfl) ?_ | refine Zaa.go (Zb5 rfl Tryz.underlying28 rfl) ?_
              refine Zak rfl rfl rfl (goMv rfl rfl (Zak rfl rfl rfl ?_))
              first | refine Zaa.go (ZaD rfl Tryz.underlying28 rfl) ?_ | refine Zaa.go (Zb2 rfl rfl Tryz.underlying28 rfl) ?_ | refine Zaa.go (Zb6 rfl Tryz.underlying28 rfl) ?_ | refine Zaa.go (ZbY rfl Tryz.underlying28 rfl) ?_ | refine Zaa.go (Zb1 rfl Tryz.underlying28 rfl) ?_ | refine Zaa.go (Zb5 rfl Tryz.underlying28 rfl) ?_
              refine Zak rfl rfl rfl (Zaa.go (ZaF rfl rfl (IntWalk.i64_in _ (by omega)) rfl) (Zak rfl rfl rfl ?_))
              first | refine Zaa.go (Zbf rfl rfl rfl) ?_ | refine Zaa.go (Zbi rfl rfl rfl) ?_ | refine Zaa.go (ZbL rfl rfl rfl) ?_ | refine Zaa.go (ZbQ Tryz.underlying3 rfl rfl rfl) ?_ | refine Zaa.go (ZbO Tryz.underlying3 rfl rfl rfl) ?_ | refine Zaa.go (st_neqN Tryz.underlying3 rfl rfl) ?_ | refine Zaa.go (ZbP Tryz.underlying3 rfl rfl rfl) ?_ | refine Zaa.go (st_neqFN Tryz.underlying3 rfl rfl) ?_
              refine Zaa.go (ZaB rfl rfl rfl rfl) ?_;refine goMv rfl rfl (ZbX 96 rfl ((decide_eq_false (by omega))) (Zak rfl rfl rfl (goMv rfl rfl (Zak rfl rfl rfl (goMv rfl rfl (Zak rfl rfl rfl (Zaa.go (Zax (csc) rfl rfl) (Zak rfl rfl rfl ?_))))))))
              first | refine Zaa.go (Zbo rfl rfl) ?_ | refine Zaa.go (ZbK rfl rfl) ?_
              refine Zaa.go (ZaB rfl rfl rfl rfl) (Zac ?_);refine Zbm rfl (rfl) (Zar (Zae (Zae (Zab (goAs rfl rfl (Zac (Zaq (ZaP (α := Nat) (fun k => ⟨117, [(9, (.d (.sl none (LB2.map intD)))), (11, (.d (.sl none (LP.map intD)))), (13, (.d (intD (k : Int))))], []⟩) (fun k => k ≤ LB2.length) (fun k => LB2.length - k) (0) (Nat.zero_le _) (Zau hF [] rfl rfl ⟨rfl, rfl, rfl, trivial⟩) ?_))))))));rintro k hk0;refine Zae (Zae (Zab (goMv rfl rfl (goMv rfl rfl ?_))))
              first | refine Zaa.go (ZaD rfl Tryz.underlying28 rfl) ?_ | refine Zaa.go (Zb2 rfl rfl Tryz.underlying28 rfl) ?_ | refine Zaa.go (Zb6 rfl Tryz.underlying28 rfl) ?_ | refine Zaa.go (ZbY rfl Tryz.underlying28 rfl) ?_ | refine Zaa.go (Zb1 rfl Tryz.underlying28 rfl) ?_ | refine Zaa.go (Zb5 rfl Tryz.underlying28 rfl) ?_
              first | refine Zaa.go (ZaN rfl rfl rfl) ?_ | refine Zaa.go (Zcb rfl rfl rfl) ?_
              refine Zac ?_
              first | refine ZaH rfl (fun h105 => ?_) (fun h105 => ?_) | refine Zbb rfl (fun h105 => ?_) (fun h105 => ?_)
              · have hk1 : k < LB2.length := ZaO h105;refine Zar (Zae (Zaq (Zae ?_)));have hyb := hib _ (List.getElem_mem hk1);refine Zab (goMv rfl rfl (goMv rfl rfl (goMv rfl rfl ?_)))
                first | refine Zaa.go (Zaz (k) rfl rfl (rfl) (getm hk1) Tryz.underlying28 rfl sz3 rfl) ?_ | refine Zaa.go (Zbn (k) rfl rfl (rfl) (getm hk1) rfl Tryz.underlying28 sz3 rfl) ?_
                first | refine Zaa.go (Zat rfl rfl on3 rfl) ?_ | refine Zaa.go (Zah rfl rfl rfl on3 rfl) ?_ | refine Zaa.go (ZaK rfl rfl (rfl) rfl on3 rfl) ?_
                refine Zaa.go (ZaF rfl rfl (IntWalk.i64_in _ (by omega)) rfl) (Zaa.go (Zax (chc _ (List.getElem_mem hk1)) rfl rfl) ?_)
                first | refine Zaa.go (Zbo rfl rfl) ?_ | refine Zaa.go (ZbK rfl rfl) ?_
                refine Zac (Zbm rfl (rfl) (Zar (Zab (goMv rfl rfl (Zaa.go (ZaF rfl rfl (wrapS (k + 1) (by omega)) rfl) (goAs rfl rfl (Zac ?_)))))));exact ⟨k + 1, by show k + 1 ≤ _; omega, by show LB2.length - (k + 1) < LB2.length - k; omega, Zau hF [] rfl (rfl) ⟨rfl, rfl, rfl, trivial⟩⟩
              · refine ZaR (Zae (Zab (Zaa.go (Zax (hk) rfl rfl) (goAs rfl rfl (Zac (Zao ?_))))));exact ⟨_, [], [], Zam rfl, rfl, rfl, rfl, rfl⟩
            · first | refine Zaa.go (Zbf rfl rfl rfl) ?_ | refine Zaa.go (Zbi rfl rfl rfl) ?_ | refine Zaa.go (ZbL rfl rfl rfl) ?_ | refine Zaa.go (ZbQ Tryz.underlying3 rfl rfl rfl) ?_ | refine Zaa.go (ZbO Tryz.underlying3 rfl rfl rfl) ?_ | refine Zaa.go (st_neqN Tryz.underlying3 rfl rfl) ?_ | refine Zaa.go (ZbP Tryz.underlying3 rfl rfl rfl) ?_ | refine Zaa.go (st_neqFN Tryz.underlying3 rfl rfl) ?_
              refine Zac (ZaU rfl ((by simp [hpc])) (Zae (Zab (Zaa.go (Zax (hk) rfl rfl) (goAs rfl rfl (Zac (Zao ?_)))))));exact ⟨_, [], [], Zam rfl, rfl, rfl, rfl, rfl⟩
          · rw [decide_eq_true hu] at ct;refine ZaG Tryz.func9 rfl rfl Tryz.ntmps9 rfl rfl rfl fun F hF => ?_;refine Zae (Zab (Zaj.go (Za0 1 rfl rfl rfl rfl rfl rfl rfl) (Zaj.go (Za0 2 rfl rfl rfl rfl rfl rfl rfl) (goAs rfl rfl (Zac (Zae (Zae (Zab ?_))))))))
            first | refine Zaa.go (ZaC rfl rfl rw25 rfl) ?_ | refine Zaa.go (Zav rfl rfl rw25 rfl rfl rfl) ?_ | refine Zaa.go (ZaX rfl rfl (rfl) rfl rw25 rfl) ?_
            refine Zaa.go (Zax (sa) rfl rfl) ?_
            first | refine Zaa.go (Zbo rfl rfl) ?_ | refine Zaa.go (ZbK rfl rfl) ?_
            refine goMv rfl rfl (ZbX 17 rfl (rfl) (Zak rfl rfl rfl ?_))
            first | refine Zaa.go (ZaC rfl rfl rw25 rfl) ?_ | refine Zaa.go (Zav rfl rfl rw25 rfl rfl rfl) ?_ | refine Zaa.go (ZaX rfl rfl (rfl) rfl rw25 rfl) ?_
            refine Zak rfl rfl rfl (Zaa.go (Zax (sb) rfl rfl) (Zak rfl rfl rfl ?_))
            first | refine Zaa.go (Zbo rfl rfl) ?_ | refine Zaa.go (ZbK rfl rfl) ?_
            refine Zaa.go (ZaB rfl rfl rfl rfl) (goMv rfl rfl (ZbX 22 rfl (rfl) (Zak rfl rfl rfl ?_)))
            first | refine Zaa.go (ZaC rfl rfl rw25 rfl) ?_ | refine Zaa.go (Zav rfl rfl rw25 rfl rfl rfl) ?_ | refine Zaa.go (ZaX rfl rfl (rfl) rfl rw25 rfl) ?_
            refine Zak rfl rfl rfl (Zaa.go (Zax (ca) rfl rfl) (Zak rfl rfl rfl ?_))
            first | refine Zaa.go (Zbf rfl rfl rfl) ?_ | refine Zaa.go (Zbi rfl rfl rfl) ?_ | refine Zaa.go (ZbL rfl rfl rfl) ?_ | refine Zaa.go (ZbQ Tryz.underlying3 rfl rfl rfl) ?_ | refine Zaa.go (ZbO Tryz.underlying3 rfl rfl rfl) ?_ | refine Zaa.go (st_neqN Tryz.underlying3 rfl rfl) ?_ | refine Zaa.go (ZbP Tryz.underlying3 rfl rfl rfl) ?_ | refine Zaa.go (st_neqFN Tryz.underlying3 rfl rfl) ?_
            refine Zaa.go (ZaB rfl rfl rfl rfl) (goMv rfl rfl (ZbX 27 rfl (rfl) (Zak rfl rfl rfl ?_)))
            first | refine Zaa.go (ZaC rfl rfl rw25 rfl) ?_ | refine Zaa.go (Zav rfl rfl rw25 rfl rfl rfl) ?_ | refine Zaa.go (ZaX rfl rfl (rfl) rfl rw25 rfl) ?_
            refine Zak rfl rfl rfl (Zaa.go (Zax (cb) rfl rfl) (Zak rfl rfl rfl ?_))
            first | refine Zaa.go (Zbf rfl rfl rfl) ?_ | refine Zaa.go (Zbi rfl rfl rfl) ?_ | refine Zaa.go (ZbL rfl rfl rfl) ?_ | refine Zaa.go (ZbQ Tryz.underlying3 rfl rfl rfl) ?_ | refine Zaa.go (ZbO Tryz.underlying3 rfl rfl rfl) ?_ | refine Zaa.go (st_neqN Tryz.underlying3 rfl rfl) ?_ | refine Zaa.go (ZbP Tryz.underlying3 rfl rfl rfl) ?_ | refine Zaa.go (st_neqFN Tryz.underlying3 rfl rfl) ?_
            refine Zaa.go (ZaB rfl rfl rfl rfl) (goMv rfl rfl (ZbX 32 rfl (rfl) (Zak rfl rfl rfl ?_)))
            first | refine Zaa.go (ZaC rfl rfl rw25 rfl) ?_ | refine Zaa.go (Zav rfl rfl rw25 rfl rfl rfl) ?_ | refine Zaa.go (ZaX rfl rfl (rfl) rfl rw25 rfl) ?_
            refine Zak rfl rfl rfl (Zaa.go (Zax (ct) rfl rfl) ?_);refine Zaa.go (ZaB rfl rfl rfl rfl) (Zac (ZaU rfl (rfl) (Zae (Zab (Zaa.go (Zax (hk) rfl rfl) (goAs rfl rfl (Zac (Zao ?_))))))));exact ⟨_, [], [], Zam rfl, rfl, rfl, rfl, rfl⟩
        · have hpb2 := hpb;refine ZaG Tryz.func9 rfl rfl Tryz.ntmps9 rfl rfl rfl fun F hF => ?_;refine Zae (Zab (Zaj.go (Za0 1 rfl rfl rfl rfl rfl rfl rfl) (Zaj.go (Za0 2 rfl rfl rfl rfl rfl rfl rfl) (goAs rfl rfl (Zac (Zae (Zae (Zab ?_))))))))
          first | refine Zaa.go (ZaC rfl rfl rw25 rfl) ?_ | refine Zaa.go (Zav rfl rfl rw25 rfl rfl rfl) ?_ | refine Zaa.go (ZaX rfl rfl (rfl) rfl rw25 rfl) ?_
          refine Zaa.go (Zax (sa) rfl rfl) ?_
          first | refine Zaa.go (Zbo rfl rfl) ?_ | refine Zaa.go (ZbK rfl rfl) ?_
          refine goMv rfl rfl (ZbX 17 rfl (rfl) (Zak rfl rfl rfl ?_))
          first | refine Zaa.go (ZaC rfl rfl rw25 rfl) ?_ | refine Zaa.go (Zav rfl rfl rw25 rfl rfl rfl) ?_ | refine Zaa.go (ZaX rfl rfl (rfl) rfl rw25 rfl) ?_
          refine Zak rfl rfl rfl (Zaa.go (Zax (sb) rfl rfl) (Zak rfl rfl rfl ?_))
          first | refine Zaa.go (Zbo rfl rfl) ?_ | refine Zaa.go (ZbK rfl rfl) ?_
          refine Zaa.go (ZaB rfl rfl rfl rfl) (goMv rfl rfl (ZbX 22 rfl (rfl) (Zak rfl rfl rfl ?_)))
          first | refine Zaa.go (ZaC rfl rfl rw25 rfl) ?_ | refine Zaa.go (Zav rfl rfl rw25 rfl rfl rfl) ?_ | refine Zaa.go (ZaX rfl rfl (rfl) rfl rw25 rfl) ?_
          refine Zak rfl rfl rfl (Zaa.go (Zax (ca) rfl rfl) (Zak rfl rfl rfl ?_))
          first | refine Zaa.go (Zbf rfl rfl rfl) ?_ | refine Zaa.go (Zbi rfl rfl rfl) ?_ | refine Zaa.go (ZbL rfl rfl rfl) ?_ | refine Zaa.go (ZbQ Tryz.underlying3 rfl rfl rfl) ?_ | refine Zaa.go (ZbO Tryz.underlying3 rfl rfl rfl) ?_ | refine Zaa.go (st_neqN Tryz.underlying3 rfl rfl) ?_ | refine Zaa.go (ZbP Tryz.underlying3 rfl rfl rfl) ?_ | refine Zaa.go (st_neqFN Tryz.underlying3 rfl rfl) ?_
          refine Zaa.go (ZaB rfl rfl rfl rfl) (goMv rfl rfl (ZbX 27 rfl (rfl) (Zak rfl rfl rfl ?_)))
          first | refine Zaa.go (ZaC rfl rfl rw25 rfl) ?_ | refine Zaa.go (Zav rfl rfl rw25 rfl rfl rfl) ?_ | refine Zaa.go (ZaX rfl rfl (rfl) rfl rw25 rfl) ?_
          refine Zak rfl rfl rfl (Zaa.go (Zax (cb) rfl rfl) (Zak rfl rfl rfl ?_))
          first | refine Zaa.go (Zbf rfl rfl rfl) ?_ | refine Zaa.go (Zbi rfl rfl rfl) ?_ | refine Zaa.go (ZbL rfl rfl rfl) ?_ | refine Zaa.go (ZbQ Tryz.underlying3 rfl rfl rfl) ?_ | refine Zaa.go (ZbO Tryz.underlying3 rfl rfl rfl) ?_ | refine Zaa.go (st_neqN Tryz.underlying3 rfl rfl) ?_ | refine Zaa.go (ZbP Tryz.underlying3 rfl rfl rfl) ?_ | refine Zaa.go (st_neqFN Tryz.underlying3 rfl rfl) ?_
          refine Zaa.go (ZaB rfl rfl rfl rfl) (goMv rfl rfl (o_setT 32 rfl ((decide_eq_true hpb)) (Zai rfl rfl rfl rfl (Zai rfl rfl rfl rfl ?_))));refine Zaa.go (Zay rfl rfl rfl rfl) (Zac (ZaU rfl rfl (Zae (Zab (Zaa.go (Zax (hk) rfl rfl) (goAs rfl rfl (Zac (Zao ?_))))))));exact ⟨_, [], [], Zam rfl, rfl, rfl, rfl, rfl⟩
      · have hpa2 := hpa;refine ZaG Tryz.func9 rfl rfl Tryz.ntmps9 rfl rfl rfl fun F hF => ?_;refine Zae (Zab (Zaj.go (Za0 1 rfl rfl rfl rfl rfl rfl rfl) (Zaj.go (Za0 2 rfl rfl rfl rfl rfl rfl rfl) (goAs rfl rfl (Zac (Zae (Zae (Zab ?_))))))))
        first | refine Zaa.go (ZaC rfl rfl rw25 rfl) ?_ | refine Zaa.go (Zav rfl rfl rw25 rfl rfl rfl) ?_ | refine Zaa.go (ZaX rfl rfl (rfl) rfl rw25 rfl) ?_
        refine Zaa.go (Zax (sa) rfl rfl) ?_
        first | refine Zaa.go (Zbo rfl rfl) ?_ | refine Zaa.go (ZbK rfl rfl) ?_
        refine goMv rfl rfl (ZbX 17 rfl (rfl) (Zak rfl rfl rfl ?_))
        first | refine Zaa.go (ZaC rfl rfl rw25 rfl) ?_ | refine Zaa.go (Zav rfl rfl rw25 rfl rfl rfl) ?_ | refine Zaa.go (ZaX rfl rfl (rfl) rfl rw25 rfl) ?_
        refine Zak rfl rfl rfl (Zaa.go (Zax (sb) rfl rfl) (Zak rfl rfl rfl ?_))
        first | refine Zaa.go (Zbo rfl rfl) ?_ | refine Zaa.go (ZbK rfl rfl) ?_
        refine Zaa.go (ZaB rfl rfl rfl rfl) (goMv rfl rfl (ZbX 22 rfl (rfl) (Zak rfl rfl rfl ?_)))
        first | refine Zaa.go (ZaC rfl rfl rw25 rfl) ?_ | refine Zaa.go (Zav rfl rfl rw25 rfl rfl rfl) ?_ | refine Zaa.go (ZaX rfl rfl (rfl) rfl rw25 rfl) ?_
        refine Zak rfl rfl rfl (Zaa.go (Zax (ca) rfl rfl) (Zak rfl rfl rfl ?_))
        first | refine Zaa.go (Zbf rfl rfl rfl) ?_ | refine Zaa.go (Zbi rfl rfl rfl) ?_ | refine Zaa.go (ZbL rfl rfl rfl) ?_ | refine Zaa.go (ZbQ Tryz.underlying3 rfl rfl rfl) ?_ | refine Zaa.go (ZbO Tryz.underlying3 rfl rfl rfl) ?_ | refine Zaa.go (st_neqN Tryz.underlying3 rfl rfl) ?_ | refine Zaa.go (ZbP Tryz.underlying3 rfl rfl rfl) ?_ | refine Zaa.go (st_neqFN Tryz.underlying3 rfl rfl) ?_
        refine Zaa.go (ZaB rfl rfl rfl rfl) ?_;refine goMv rfl rfl (o_setT 27 rfl ((decide_eq_true hpa)) (Zai rfl rfl rfl rfl (Zai rfl rfl rfl rfl (Zai rfl rfl rfl rfl (Zaa.go (Zay rfl rfl rfl rfl) (goMv rfl rfl (Zai rfl rfl rfl rfl (Zai rfl rfl rfl rfl ?_))))))));refine Zaa.go (Zay rfl rfl rfl rfl) (Zac (ZaU rfl rfl (Zae (Zab (Zaa.go (Zax (hk) rfl rfl) (goAs rfl rfl (Zac (Zao ?_))))))));exact ⟨_, [], [], Zam rfl, rfl, rfl, rfl, rfl⟩
    · rw [decide_eq_false hfb] at sb;refine ZaG Tryz.func9 rfl rfl Tryz.ntmps9 rfl rfl rfl fun F hF => ?_;refine Zae (Zab (Zaj.go (Za0 1 rfl rfl rfl rfl rfl rfl rfl) (Zaj.go (Za0 2 rfl rfl rfl rfl rfl rfl rfl) (goAs rfl rfl (Zac (Zae (Zae (Zab ?_))))))))
      first | refine Zaa.go (ZaC rfl rfl rw25 rfl) ?_ | refine Zaa.go (Zav rfl rfl rw25 rfl rfl rfl) ?_ | refine Zaa.go (ZaX rfl rfl (rfl) rfl rw25 rfl) ?_
      refine Zaa.go (Zax (sa) rfl rfl) ?_
      first | refine Zaa.go (Zbo rfl rfl) ?_ | refine Zaa.go (ZbK rfl rfl) ?_
      refine goMv rfl rfl (ZbX 17 rfl (rfl) (Zak rfl rfl rfl ?_))
      first | refine Zaa.go (ZaC rfl rfl rw25 rfl) ?_ | refine Zaa.go (Zav rfl rfl rw25 rfl rfl rfl) ?_ | refine Zaa.go (ZaX rfl rfl (rfl) rfl rw25 rfl) ?_
      refine Zak rfl rfl rfl (Zaa.go (Zax (sb) rfl rfl) (Zak rfl rfl rfl ?_))
      first | refine Zaa.go (Zbo rfl rfl) ?_ | refine Zaa.go (ZbK rfl rfl) ?_
      refine Zaa.go (ZaB rfl rfl rfl rfl) (goMv rfl rfl (o_setT 22 rfl (rfl) (Zai rfl rfl rfl rfl (Zai rfl rfl rfl rfl (Zai rfl rfl rfl rfl ?_)))));refine Zaa.go (Zay rfl rfl rfl rfl) (goMv rfl rfl (Zai rfl rfl rfl rfl (Zai rfl rfl rfl rfl (Zai rfl rfl rfl rfl (Zaa.go (Zay rfl rfl rfl rfl) (goMv rfl rfl (Zai rfl rfl rfl rfl (Zai rfl rfl rfl rfl ?_))))))));refine Zaa.go (Zay rfl rfl rfl rfl) (Zac (ZaU rfl rfl (Zae (Zab (Zaa.go (Zax (hk) rfl rfl) (goAs rfl rfl (Zac (Zao ?_))))))));exact ⟨_, [], [], Zam rfl, rfl, rfl, rfl, rfl⟩
  · rw [decide_eq_false hfa] at sa;refine ZaG Tryz.func9 rfl rfl Tryz.ntmps9 rfl rfl rfl fun F hF => ?_;refine Zae (Zab (Zaj.go (Za0 1 rfl rfl rfl rfl rfl rfl rfl) (Zaj.go (Za0 2 rfl rfl rfl rfl rfl rfl rfl) (goAs rfl rfl (Zac (Zae (Zae (Zab ?_))))))))
    first | refine Zaa.go (ZaC rfl rfl rw25 rfl) ?_ | refine Zaa.go (Zav rfl rfl rw25 rfl rfl rfl) ?_ | refine Zaa.go (ZaX rfl rfl (rfl) rfl rw25 rfl) ?_
    refine Zaa.go (Zax (sa) rfl rfl) ?_
    first | refine Zaa.go (Zbo rfl rfl) ?_ | refine Zaa.go (ZbK rfl rfl) ?_
    refine goMv rfl rfl ?_;refine o_setT 17 rfl (rfl) (Zai rfl rfl rfl rfl (Zai rfl rfl rfl rfl (Zai rfl rfl rfl rfl (Zaa.go (Zay rfl rfl rfl rfl) (goMv rfl rfl (Zai rfl rfl rfl rfl (Zai rfl rfl rfl rfl (Zai rfl rfl rfl rfl ?_))))))));refine Zaa.go (Zay rfl rfl rfl rfl) (goMv rfl rfl (Zai rfl rfl rfl rfl (Zai rfl rfl rfl rfl (Zai rfl rfl rfl rfl (Zaa.go (Zay rfl rfl rfl rfl) (goMv rfl rfl (Zai rfl rfl rfl rfl (Zai rfl rfl rfl rfl ?_))))))));refine Zaa.go (Zay rfl rfl rfl rfl) (Zac (ZaU rfl rfl (Zae (Zab (Zaa.go (Zax (hk) rfl rfl) (goAs rfl rfl (Zac (Zao ?_))))))));exact ⟨_, [], [], Zam rfl, rfl, rfl, rfl, rfl⟩
end Go.Proofs.YtneihdahboilnaaGreat
namespace Go.Proofs.YtneihdahboilnaaGreat
open Go.ChangeShapes Go.WideShapes Go.ChangeAt Go.RowKit
set_option maxRecDepth 100000 in
theorem offsetComponents_lifted (os : Os) (started : os.Started) (H : Type) (enc : TypeId × Value → H) :
    ReturnsInHanded {} Tryz.checked os 9 .any (Rows.offsetComponentsSpec.pre6 enc Tryz.prog Tryz.f9 Rows.offsetComponentsRow.domain false) (Rows.offsetComponentsSpec.post enc Tryz.prog Tryz.f9 false true false false) := by
  refine returnsInHanded_of_change_sized (C := Tryz.checked) Tryz.own started (by kernel_rfl) Tryz.func9
    (ChangeSpec.witness6 (enc := enc) (C := Tryz.checked) false ⟨#[], #[.agg #[.slice none 0 0, .slice none 0 0], .agg #[.slice none 0 0, .slice none 0 0]], []⟩ 8 (by kernel_rfl) (by kernel_rfl) (by kernel_rfl) (by kernel_rfl)) ?_
  intro W base args ds gs before hval0 hW _ hwt _;have hW' := hW;obtain ⟨p, q, hA0, hV, rfl, _, _⟩ := hW;have hlt : ∀ x ∈ p ++ q, x.block < W.heap.size := fun x hx => hW'.lt x hx;have hA : DataW.TrodAll enc Tryz.prog W 0 (fun _ => true) true Tryz.f9.params.toList args.toList ds p := hA0;rw [Tryz.params9] at hA;obtain ⟨v0, v1, d0, d1, p0, p1, rfl, rfl, rfl, h0, h1⟩ := trodAll_two hA;obtain ⟨rfl, rfl⟩ := trodVars_none hV;have hwz : ∀ n ∈ DataW.weightsEach Tryz.prog ([25, 25] : List TypeId) ([d0, d1]), n ≤ reachBytes := fun n hn => of_decide_eq_true (List.all_eq_true.1 hwt n (by rw [Tryz.params9]; exact hn));have hval : ∀ (j : Nat) t v, Tryz.f9.params[j]? = some t → (#[v0, v1] : Array Value)[j]? = some v → Value.okWide Tryz.prog W .any base t v := hval0;rw [Tryz.params9] at hval;obtain ⟨n0, g0⟩ := h0;obtain ⟨cs0, rfl, _⟩ := okWide_struct Tryz.underlying25 (hval 0 25 v0 rfl rfl);obtain ⟨a0, q0, _, r0⟩ := (oPrbL) _ _ _ g0 (fun x hx => hlt x (by simp [hx])) (fun n hn => hwz n (DataW.weights_mem_each (j := 0) (t := 25) rfl rfl n hn));obtain ⟨n1, g1⟩ := h1;obtain ⟨cs1, rfl, _⟩ := okWide_struct Tryz.underlying25 (hval 1 25 v1 rfl rfl);obtain ⟨a1, q1, _, r1⟩ := (oPrbL) _ _ _ g1 (fun x hx => hlt x (by simp [hx])) (fun n hn => hwz n (DataW.weights_mem_each (j := 1) (t := 25) rfl rfl n hn));refine (law_calls (lawOA_p a0 a1 q0 q1) (vs := [.agg cs0, .agg cs1]) rfl (fun i a v ha hv => ?_)).mono fun e W' ⟨he, hb⟩ => ?_
  · rcases i with _ | _ | i
    · simp at ha hv; subst ha hv; exact RepC.argS rfl r0
    · simp at ha hv; subst ha hv; exact RepC.argS rfl r1
    · simp at ha
  subst he;exact ⟨_, rfl, law_post (tb := 4) Tryz.laidOut (by kernel_rfl) rfl rfl Tryz.underlying4 hW' ⟨rfl, rfl, rfl⟩ hb⟩
theorem offsetComponents_holds : Rows.OffsetComponentsSaid :=
  OpenClaim.holds_of_wide 9 Tryz.f9 rfl rfl rfl rfl rfl rfl rfl ⟨rfl, rfl, rfl, rfl, rfl⟩ rfl rfl rfl rfl rfl (by kernel_rfl) Tryz.func9 (by kernel_rfl)
    (of_decide_eq_true (by kernel_rfl)) (by unfold Func.isWrapper; first | (rw [if_pos (by decide +kernel)]; kernel_rfl) | (rw [if_neg (by decide +kernel)]; exact ⟨rfl, rfl⟩))
    (fun os started H enc _ => offsetComponents_lifted os started H enc)
#print axioms offsetComponents_holds
end Go.Proofs.YtneihdahboilnaaGreat
