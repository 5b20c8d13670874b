/- Proved here: feasibleLargest_holds, the given statement Rows.FeasibleLargestSaid: the law girolaw29.FeasibleLargest returns true and does not panic, at every input that the statement speaks of; no condition beyond the statement. -/
/- Layer 29: the law of the largest feasible set. -/
import Derived.Test.YtnamabifclidmaaGreatMg24
namespace Go.Proofs.YtnamabifclidmaaGreat
open Go.RowKit

abbrev hLa (p : Prb) (U : List Int) (_q : Unit) : Hp := [(2, [.blk 4 [.d (boolD false)]]), (3, [prbB2 35 p]), (4, [.blk 26 [.d (.sl none (U.map intD))]])]
set_option maxRecDepth 100000 in
set_option maxHeartbeats 4000000 in
theorem lawFA_p (p : Prb) : PCalls Tryz.prog 12 [.d (prbD p)] (.raw (.bool true)) := by
  have hk := known29_p;have hs := small_p p
  by_cases hf : Sml p
  · rw [decide_eq_true hf] at hs;have g1 := hf.1;have g2 := hf.2.1;have g3 := hf.2.2;have ck := refpcheck_p p (by omega) (by omega) (fun i hi => by have := g3 i hi; omega);have c1 := own_p p hf
    by_cases h7 : p.it.length ≤ 7
    · by_cases hp : prbE p = 0
      · rw [hp] at ck;have cu := union_ok p (sml_B hf) hp (by omega) (by omega);have huq : listS (smlOf p) (unoB (smlOf p)) = unoL p := rfl;rw [huq] at cu;have hU := uno_Fea hp (by omega);have hmax : ∀ C, Fea p C → ∀ y ∈ C, y ∈ unoL p := fun C hC => uno_max hp (by omega) hC;have hcho := choE_ok hp hU.n hU.i;have h12 := setlE_12 hcho
        have hUl : (unoL p).length ≤ 12 := by
          have := sub_len hU.n (Zb2 (ZbJ hp).2.1) hU.i;rw [List.length_map] at this; omega
        have cf := feasF_p p (unoL p) (sml_B hf) (by omega) (by omega) (by omega);rw [decide_eq_true ⟨hcho, hU.a, hU.v⟩, hcho] at cf;have cse := settle_p p (unoL p) (sml_B hf) (by omega) (by omega);have cse' : ∀ e, setlE p (unoL p) = e → PCalls Tryz.prog 41 [.d (prbD p), .d (.sl none ((unoL p).map intD))] (.tup [prbD (setlP p (unoL p)), intD e]) := fun e he => by rw [← he]; exact cse
        have hqs := setl_sml hf (unoL p)
        have cc : setlE p (unoL p) = 0 → PCalls Tryz.prog 36 [.d (prbD (setlP p (unoL p)))] (.tup [intD ((allX (smlOf (setlP p (unoL p)))).length : Nat), intD (1 : Nat), intD 0]) := fun he => by
          have hq := setl_prb hp he;have h := count_ok (setlP p (unoL p)) (sml_B hqs) hq (by have := hqs.1; omega) (by have := hqs.2.1; omega);rw [one_fea hq (by have := hqs.1; omega) fun S hS => rest_nil hp (by omega) hU hmax he hS] at h;exact h
        have hW1 := allW_len1 hp;have hWn := allW_nodup hp;have hWi := allW_in hp;have hWF : ∀ L ∈ allW (smlOf p), feaW p L = true → Fea p L := fun L hL h => feaW_Fea hp hL h;have hal := fun l H N step st0 => all1_c (β := Unit) p (sml_B hf) hp (by omega) (by omega) l H N step st0
        have cfW : ∀ L ∈ allW (smlOf p), ∀ v, feaW p L = v → PCalls Tryz.prog 17 [.d (prbD p), .d (.sl none (L.map intD))] (.tup [boolD v, intD 0]) := fun L hL v hv => by
          have h := feasF_p p L (sml_B hf) (by have := hW1 L hL; omega) (by omega) (by omega);have h0 := choE_ok hp (hWn L hL) (hWi L hL)
          rw [show decide (choE p L = 0 ∧ blks p (inL L) = [] ∧ viol p (setM L) = []) = v from by
            rw [← hv]; unfold feaW; exact decide_eq_decide.2 ⟨fun h => h.2, fun h => ⟨h0, h⟩⟩, h0] at h
          exact h
        obtain ⟨W, hW⟩ : ∃ W, allW (smlOf p) = W := ⟨_, rfl⟩
        rw [hW] at hW1 hWn hWi hWF hal cfW
        obtain ⟨U, hUU⟩ : ∃ U, unoL p = U := ⟨_, rfl⟩
        rw [hUU] at cu hU hmax hcho h12 hUl cf cse cse' hqs cc;refine a_enterR Tryz.func12 rfl rfl Tryz.ntmps12 rfl rfl rfl fun F hF hFl => ?_;refine Zaf ?_;refine Zab ?_;refine Zal.go (ZaP 1 rfl rfl rfl rfl rfl rfl rfl) ?_;refine Zal.go (ZaR 2 zl4 rfl rfl rfl rfl) ?_;refine Zae ?_;refine Zaf ?_;refine Zaf ?_;refine Zab ?_
        first | refine Zaa.go (ZaA rfl rfl rw25 rfl) ?_ | refine Zaa.go (Zar rfl rfl rw25 rfl rfl rfl) ?_ | refine Zaa.go (ZaT rfl rfl (rfl) rfl rw25 rfl) ?_
        refine Zaa.go (Zau (hs) rfl rfl) ?_
        first | refine Zaa.go (Zbd rfl rfl) ?_ | refine Zaa.go (Zbu rfl rfl) ?_
        refine Zaa.go (Zad rfl rfl) ?_;refine o_setF 20 rfl (rfl) ?_;refine Zam rfl rfl rfl ?_
        first | refine Zaa.go (Zah rfl Zbl rfl rfl rfl) ?_ | refine Zaa.go (ZaH rfl Zbl rfl rfl rfl) ?_ | refine Zaa.go (ZaN rfl Zbl rfl rfl rfl) ?_ | refine Zaa.go (ZaW rfl Zbl rfl rfl rfl) ?_
        refine Zam rfl rfl rfl ?_
        first | refine Zaa.go (Zas rfl rfl on23 rfl) ?_ | refine Zaa.go (Zai rfl rfl rfl on23 rfl) ?_ | refine Zaa.go (ZaI rfl rfl (rfl) rfl on23 rfl) ?_
        refine Zam rfl rfl rfl ?_
        first | refine Zaa.go (Zax rfl Tryz.underlying23 rfl) ?_ | refine Zaa.go (Zbr rfl rfl Tryz.underlying23 rfl) ?_ | refine Zaa.go (Zbq rfl Tryz.underlying23 rfl) ?_ | refine Zaa.go (Zbj rfl Tryz.underlying23 rfl) ?_ | refine Zaa.go (Zbp rfl Tryz.underlying23 rfl) ?_
        refine Zam rfl rfl rfl ?_
        first | refine Zaa.go (Zbv rfl rfl rfl) ?_ | refine Zaa.go (st_gtrS rfl rfl rfl) ?_
        refine Zaa.go (ZaC rfl rfl rfl rfl) ?_;refine Zaa.go (Zad rfl rfl) ?_;refine o_setF 26 rfl ((decide_eq_false (by omega))) ?_;refine Zam rfl rfl rfl ?_
        first | refine Zaa.go (ZaA rfl rfl rw25 rfl) ?_ | refine Zaa.go (Zar rfl rfl rw25 rfl rfl rfl) ?_ | refine Zaa.go (ZaT rfl rfl (rfl) rfl rw25 rfl) ?_
        refine Zam rfl rfl rfl ?_;refine Zaa.go (Zau (ck) rfl rfl) ?_;refine Zam rfl rfl rfl ?_
        first | refine Zaa.go (Za3 rfl rfl rfl) ?_ | refine Zaa.go (Zbb rfl rfl rfl) ?_ | refine Zaa.go (Zbx rfl rfl rfl) ?_ | refine Zaa.go (ZbD Tryz.underlying3 rfl rfl rfl) ?_ | refine Zaa.go (ZbB Tryz.underlying3 rfl rfl rfl) ?_ | refine Zaa.go (st_neqN Tryz.underlying3 rfl rfl) ?_ | refine Zaa.go (ZbC Tryz.underlying3 rfl rfl rfl) ?_ | refine Zaa.go (st_neqFN Tryz.underlying3 rfl rfl) ?_
        refine Zaa.go (ZaC rfl rfl rfl rfl) ?_;refine Zaa.go (Zad rfl rfl) ?_;refine o_setF 31 rfl (rfl) ?_;refine Zam rfl rfl rfl ?_;refine Zaa.go (Zau (hk) rfl rfl) ?_;refine Zam rfl rfl rfl ?_
        first | refine Zaa.go (Zbd rfl rfl) ?_ | refine Zaa.go (Zbu rfl rfl) ?_
        refine Zaa.go (ZaC rfl rfl rfl rfl) ?_;refine Zae ?_;refine ZaX rfl (rfl) ?_;refine Zap ?_;refine Zaf ?_;refine Zab ?_
        first | refine Zaa.go (ZaA rfl rfl rw25 rfl) ?_ | refine Zaa.go (Zar rfl rfl rw25 rfl rfl rfl) ?_ | refine Zaa.go (ZaT rfl rfl (rfl) rfl rw25 rfl) ?_
        refine Zaa.go (Zau (c1) rfl rfl) ?_;refine Zal.go (ZaR 3 zl35 rfl rfl rfl rfl) ?_;refine Zal.go (ZaD rfl rfl rfl rfl rfl rfl rfl sz35) ?_;refine Zae ?_;refine Zaf ?_;refine Zab ?_
        first | refine Zaa.go (ZaA rfl rfl rw35 rfl) ?_ | refine Zaa.go (Zar rfl rfl rw35 rfl rfl rfl) ?_ | refine Zaa.go (ZaT rfl rfl (rfl) rfl rw35 rfl) ?_
        refine Zaa.go (Zau (cu) rfl rfl) ?_;refine Zaa.go (Zad rfl rfl) ?_
        first | refine Zaa.go (ZaE rfl rfl rfl) ?_ | refine Zaa.go (ZaF rfl rfl rfl) ?_
        first | refine Zaa.go (ZaE rfl rfl rfl) ?_ | refine Zaa.go (ZaF rfl rfl rfl) ?_
        refine Zal.go (ZaR 4 zl26 rfl rfl rfl rfl) ?_;refine Zal.go (ZaD rfl rfl rfl rfl rfl rfl rfl sz26) ?_;refine Zaa.go (Zac rfl rfl) ?_;refine Zae ?_;refine Zaf ?_;refine Zab ?_
        first | refine Zaa.go (ZaA rfl rfl rw35 rfl) ?_ | refine Zaa.go (Zar rfl rfl rw35 rfl rfl rfl) ?_ | refine Zaa.go (ZaT rfl rfl (rfl) rfl rw35 rfl) ?_
        first | refine Zaa.go (Zas rfl rfl on26 rfl) ?_ | refine Zaa.go (Zai rfl rfl rfl on26 rfl) ?_ | refine Zaa.go (ZaI rfl rfl (rfl) rfl on26 rfl) ?_
        refine Zaa.go (Zau (cf) rfl rfl) ?_;refine Zaa.go (Zad rfl rfl) ?_
        first | refine Zaa.go (ZaE rfl rfl rfl) ?_ | refine Zaa.go (ZaF rfl rfl rfl) ?_
        first | refine Zaa.go (ZaE rfl rfl rfl) ?_ | refine Zaa.go (ZaF rfl rfl rfl) ?_
        refine Zaa.go (Zac rfl rfl) ?_;refine Zaa.go (Zac rfl rfl) ?_;refine Zae ?_;refine Zaf ?_;refine Zaf ?_;refine Zab ?_;refine Zaa.go (Zad rfl rfl) ?_
        first | refine Zaa.go (Za3 rfl rfl rfl) ?_ | refine Zaa.go (Zbb rfl rfl rfl) ?_ | refine Zaa.go (Zbx rfl rfl rfl) ?_ | refine Zaa.go (ZbD Tryz.underlying29 rfl rfl rfl) ?_ | refine Zaa.go (ZbB Tryz.underlying29 rfl rfl rfl) ?_ | refine Zaa.go (st_neqN Tryz.underlying29 rfl rfl) ?_ | refine Zaa.go (ZbC Tryz.underlying29 rfl rfl rfl) ?_ | refine Zaa.go (st_neqFN Tryz.underlying29 rfl rfl) ?_
        refine Zaa.go (Zad rfl rfl) ?_;refine o_setF 51 rfl (rfl) ?_;refine Zam rfl rfl rfl ?_;refine Zaa.go (Zad rfl rfl) ?_;refine Zam rfl rfl rfl ?_
        first | refine Zaa.go (Za3 rfl rfl rfl) ?_ | refine Zaa.go (Zbb rfl rfl rfl) ?_ | refine Zaa.go (Zbx rfl rfl rfl) ?_ | refine Zaa.go (ZbD Tryz.underlying29 rfl rfl rfl) ?_ | refine Zaa.go (ZbB Tryz.underlying29 rfl rfl rfl) ?_ | refine Zaa.go (st_neqN Tryz.underlying29 rfl rfl) ?_ | refine Zaa.go (ZbC Tryz.underlying29 rfl rfl rfl) ?_ | refine Zaa.go (st_neqFN Tryz.underlying29 rfl rfl) ?_
        refine Zaa.go (ZaC rfl rfl rfl rfl) ?_;refine Zaa.go (Zad rfl rfl) ?_;refine o_setF 55 rfl (rfl) ?_;refine Zam rfl rfl rfl ?_;refine Zaa.go (Zad rfl rfl) ?_;refine Zam rfl rfl rfl ?_
        first | refine Zaa.go (Zbd rfl rfl) ?_ | refine Zaa.go (Zbu rfl rfl) ?_
        refine Zaa.go (ZaC rfl rfl rfl rfl) ?_;refine Zae ?_;refine ZaX rfl (rfl) ?_;refine Zap ?_;refine Zaf ?_;refine Zaf ?_;refine Zab ?_
        first | refine Zaa.go (ZaA rfl rfl rw35 rfl) ?_ | refine Zaa.go (Zar rfl rfl rw35 rfl rfl rfl) ?_ | refine Zaa.go (ZaT rfl rfl (rfl) rfl rw35 rfl) ?_
        refine Zal.go (Za8 (allF_c p) rfl [] trivial rfl rfl rfl rfl rfl rfl rfl rfl rfl) ?_;refine Zae ?_;refine Zaq ?_;refine a_keep [2, 3, 4, 60] rfl ?_;refine a_only [2, 3, 4] hF rfl rfl ?_;refine a_range (γ := Unit) hFl 900 rfl rfl rfl rfl rfl [2, 3, 4] (CHr := hLa p U ()) (fun _ => True) (fun _ => hLa p U ()) (fun _ => .ready) (fun _ => none) ⟨rfl, rfl, rfl, trivial⟩ rfl rfl rfl (fun _ => rfl) (fun _ => rfl) rfl (fun _ _ => by simp) (fun _ _ => ⟨rfl, rfl⟩) [2, 3, 4] hF rfl rfl (fun _ _ => rfl) (fun l A B hA hB => ?_) (fun _ _ => ?_)
        · refine (hal l (fun q : Unit => (900, [.loop ⟨l, 105, [(2, .ptr 2 0 0), (3, .ptr 3 0 0), (4, .ptr 4 0 0), (60, .fn 63 [.d (.ptr (prbD p))])], .ready, none, #[61], A, B⟩]) :: hLa p U q) [900, 2, 3, 4] (fun _ _ => ((), true)) () (fun _ => rfl) (fun _ => rfl) (fun _ => rfl) (by decide) (by intro f hf st; simp at hf; rcases hf with rfl | rfl | rfl | rfl | rfl <;> rfl) (fun _ => rfl) ?_).mono (fun r H' ⟨e1, e2⟩ => ⟨e1, (), trivial, e2⟩);refine feeds_one W fun L hL => ?_;have hLl := hW1 L hL;have hLF := hWF L hL;refine yc_round (lf := 900) rfl rfl rfl rfl fun F hF hr => ?_;refine Awp.code hA ?_;refine Zab ?_;refine Zaa.go (Zac rfl rfl) ?_;refine Zae ?_;refine ⟨rfl, _, _, rfl, rfl, rfl, rfl, ?_⟩;refine Awp.code hB ?_;refine Zaq ?_;refine Zaf ?_;refine Zaf ?_;refine Zab ?_
          cases hfx : feaW p L
          · first | refine Zaa.go (ZaA rfl rfl rw35 rfl) ?_ | refine Zaa.go (Zar rfl rfl rw35 rfl rfl rfl) ?_ | refine Zaa.go (ZaT rfl rfl (rfl) rfl rw35 rfl) ?_
            refine Zaa.go (Zad rfl rfl) ?_;refine Zaa.go (Zau (cfW L hL _ hfx) rfl rfl) ?_;refine Zaa.go (Zad rfl rfl) ?_
            first | refine Zaa.go (ZaE rfl rfl rfl) ?_ | refine Zaa.go (ZaF rfl rfl rfl) ?_
            first | refine Zaa.go (ZaE rfl rfl rfl) ?_ | refine Zaa.go (ZaF rfl rfl rfl) ?_
            refine Zaa.go (Zac rfl rfl) ?_;refine Zaa.go (Zac rfl rfl) ?_;refine Zae ?_;refine Zaf ?_;refine Zab ?_;refine Zaa.go (Zad rfl rfl) ?_
            first | refine Zaa.go (Zbd rfl rfl) ?_ | refine Zaa.go (Zbu rfl rfl) ?_
            refine Zae ?_;refine ZaS rfl (rfl) ?_;refine ZaQ ?_;exact ⟨none, _, _, [900, 2, 3, 4], _, rfl, rfl, rfl, rfl, rfl, rfl, rfl, rfl⟩
          · first | refine Zaa.go (ZaA rfl rfl rw35 rfl) ?_ | refine Zaa.go (Zar rfl rfl rw35 rfl rfl rfl) ?_ | refine Zaa.go (ZaT rfl rfl (rfl) rfl rw35 rfl) ?_
            refine Zaa.go (Zad rfl rfl) ?_;refine Zaa.go (Zau (cfW L hL _ hfx) rfl rfl) ?_;refine Zaa.go (Zad rfl rfl) ?_
            first | refine Zaa.go (ZaE rfl rfl rfl) ?_ | refine Zaa.go (ZaF rfl rfl rfl) ?_
            first | refine Zaa.go (ZaE rfl rfl rfl) ?_ | refine Zaa.go (ZaF rfl rfl rfl) ?_
            refine Zaa.go (Zac rfl rfl) ?_;refine Zaa.go (Zac rfl rfl) ?_;refine Zae ?_;refine Zaf ?_;refine Zab ?_;refine Zaa.go (Zad rfl rfl) ?_
            first | refine Zaa.go (Zbd rfl rfl) ?_ | refine Zaa.go (Zbu rfl rfl) ?_
            refine Zae ?_;refine ZaX rfl (rfl) ?_;refine Zap ?_;refine Zaf ?_;refine Zab ?_;refine Zaa.go (Zac rfl rfl) ?_;refine Zae ?_;refine Zaq ?_;refine ZaU (α := Nat) (fun j => ⟨105, [(2, (.ptr 2 0 0)), (3, (.ptr 3 0 0)), (4, (.ptr 4 0 0)), (8, (.d (.sl none (L.map intD)))), (11, (.d (intD (j : Int))))], [(900, [.loop ⟨l, 105, [(2, .ptr 2 0 0), (3, .ptr 3 0 0), (4, .ptr 4 0 0), (60, .fn 63 [.d (.ptr (prbD p))])], .busy, none, #[61], A, B⟩]), (2, [.blk 4 [.d (boolD false)]]), (3, [prbB2 35 p]), (4, [.blk 26 [.d (.sl none (U.map intD))]])]⟩) (fun j => j ≤ L.length) (fun j => L.length - j) (0) (Nat.zero_le _) (Zaw hF [900, 2, 3, 4] rfl rfl ⟨rfl, rfl, rfl, rfl, rfl, trivial⟩) ?_;rintro j hj0;refine Zaf ?_;refine Zaf ?_;refine Zab ?_;refine Zaa.go (Zad rfl rfl) ?_;refine Zaa.go (Zad rfl rfl) ?_
            first | refine Zaa.go (Zax rfl Tryz.underlying26 rfl) ?_ | refine Zaa.go (Zbr rfl rfl Tryz.underlying26 rfl) ?_ | refine Zaa.go (Zbq rfl Tryz.underlying26 rfl) ?_ | refine Zaa.go (Zbj rfl Tryz.underlying26 rfl) ?_ | refine Zaa.go (Zbp rfl Tryz.underlying26 rfl) ?_
            first | refine Zaa.go (ZaK rfl rfl rfl) ?_ | refine Zaa.go (Zbm rfl rfl rfl) ?_
            refine Zae ?_
            first | refine ZaG rfl (fun h73 => ?_) (fun h73 => ?_) | refine Za1 rfl (fun h73 => ?_) (fun h73 => ?_)
            · have hj1 : j < L.length := ZaM h73;refine Zap ?_;refine Zaf ?_;refine Zaq ?_;refine Zaf ?_;have cin := in29_p U L[j] (by omega);rw [decide_eq_true (hmax L (hLF hfx) _ (List.getElem_mem hj1))] at cin;refine Za4 [[], [], [], [1, 2], [1, 2, 3], [0, 1, 2, 3, 4], [0, 1, 2, 3, 4, 5]] mixed rfl ?_;refine dws ?_
              first | refine Zaj [4] [4] rfl rfl (fun _ => Zag (Zas rfl rfl on26 rfl)) ?_ | refine Zaj [4] [4] rfl rfl (fun _ => Zag (Zai rfl rfl rfl on26 rfl)) ?_ | refine Zaj [4] [4] rfl rfl (fun _ => Zag (ZaI rfl rfl (rfl) rfl on26 rfl)) ?_
              first | refine Zaj [8] [] rfl rfl (fun _ => Zag (Zad rfl rfl)) ?_ | refine Zat [8] rfl rfl (fun _ => Zag (Zad rfl rfl)) ?_
              first | refine Zaj [11] [] rfl rfl (fun _ => Zag (Zad rfl rfl)) ?_ | refine Zat [11] rfl rfl (fun _ => Zag (Zad rfl rfl)) ?_
              first | refine Zaj [77, 78] [] rfl rfl (fun _ => Zag (Zay (j) rfl rfl (rfl) (getm hj1) Tryz.underlying26 rfl sz3 rfl)) ?_ | refine Zat [77, 78] rfl rfl (fun _ => Zag (Zay (j) rfl rfl (rfl) (getm hj1) Tryz.underlying26 rfl sz3 rfl)) ?_ | refine Zaj [77, 78] [] rfl rfl (fun _ => Zag (Zbe (j) rfl rfl (rfl) (getm hj1) rfl Tryz.underlying26 sz3 rfl)) ?_ | refine Zat [77, 78] rfl rfl (fun _ => Zag (Zbe (j) rfl rfl (rfl) (getm hj1) rfl Tryz.underlying26 sz3 rfl)) ?_
              first | refine Zaj [79] [] rfl rfl (fun _ => Zag (Zas rfl rfl on3 rfl)) ?_ | refine Zat [79] rfl rfl (fun _ => Zag (Zas rfl rfl on3 rfl)) ?_ | refine Zaj [79] [] rfl rfl (fun _ => Zag (Zai rfl rfl rfl on3 rfl)) ?_ | refine Zat [79] rfl rfl (fun _ => Zag (Zai rfl rfl rfl on3 rfl)) ?_ | refine Zaj [79] [] rfl rfl (fun _ => Zag (ZaI rfl rfl (rfl) rfl on3 rfl)) ?_ | refine Zat [79] rfl rfl (fun _ => Zag (ZaI rfl rfl (rfl) rfl on3 rfl)) ?_
              refine dwc 5 rfl rfl rfl ?_;refine dw1 6 rfl rfl ?_;refine Zaa.go (Zau (cin) rfl rfl) ?_;refine Zae ⟨rfl, ?_⟩;refine dw1 7 rfl rfl ?_
              first | refine Zaa.go (Zbd rfl rfl) ?_ | refine Zaa.go (Zbu rfl rfl) ?_
              refine Zae ⟨rfl, ?_⟩;refine dwe ?_;refine ZaX rfl (rfl) ?_;refine Zap ?_;refine Zab ?_;refine Zaa.go (Zad rfl rfl) ?_;refine Zaa.go (Zaz rfl rfl (wrapS (j + 1) (by omega)) rfl) ?_;refine Zaa.go (Zac rfl rfl) ?_;refine Zae ?_;exact ⟨j + 1, by show j + 1 ≤ _; omega, by show L.length - (j + 1) < L.length - j; omega, Zaw hF [900, 2, 3, 4] rfl (rfl) ⟨rfl, rfl, rfl, rfl, rfl, trivial⟩⟩
            · refine ZaQ ?_;exact ⟨none, _, _, [900, 2, 3, 4], _, rfl, rfl, rfl, rfl, rfl, rfl, rfl, rfl⟩
        · refine Zaf ?_;refine Zab ?_
          first | refine Zaa.go (ZaA rfl rfl rw35 rfl) ?_ | refine Zaa.go (Zar rfl rfl rw35 rfl rfl rfl) ?_ | refine Zaa.go (ZaT rfl rfl (rfl) rfl rw35 rfl) ?_
          first | refine Zaa.go (Zas rfl rfl on26 rfl) ?_ | refine Zaa.go (Zai rfl rfl rfl on26 rfl) ?_ | refine Zaa.go (ZaI rfl rfl (rfl) rfl on26 rfl) ?_
          rcases h12 with he | he
          · refine Zaa.go (Zau (cse' _ he) rfl rfl) ?_;refine Zaa.go (Zad rfl rfl) ?_
            first | refine Zaa.go (ZaE rfl rfl rfl) ?_ | refine Zaa.go (ZaF rfl rfl rfl) ?_
            first | refine Zaa.go (ZaE rfl rfl rfl) ?_ | refine Zaa.go (ZaF rfl rfl rfl) ?_
            refine Zal.go (ZaR 5 zl35 rfl rfl rfl rfl) ?_;refine Zal.go (ZaD rfl rfl rfl rfl rfl rfl rfl sz35) ?_;refine Zaa.go (Zac rfl rfl) ?_;refine Zae ?_;refine Zaf ?_;refine Zaf ?_;refine Zab ?_;refine Zaa.go (Zad rfl rfl) ?_
            first | refine Zaa.go (Za3 rfl rfl rfl) ?_ | refine Zaa.go (Zbb rfl rfl rfl) ?_ | refine Zaa.go (Zbx rfl rfl rfl) ?_ | refine Zaa.go (ZbD Tryz.underlying29 rfl rfl rfl) ?_ | refine Zaa.go (ZbB Tryz.underlying29 rfl rfl rfl) ?_ | refine Zaa.go (st_neqN Tryz.underlying29 rfl rfl) ?_ | refine Zaa.go (ZbC Tryz.underlying29 rfl rfl rfl) ?_ | refine Zaa.go (st_neqFN Tryz.underlying29 rfl rfl) ?_
            refine Zae ?_;refine ZaX rfl (rfl) ?_;refine Zap ?_;refine Zaf ?_;refine Zab ?_
            first | refine Zaa.go (ZaA rfl rfl rw35 rfl) ?_ | refine Zaa.go (Zar rfl rfl rw35 rfl rfl rfl) ?_ | refine Zaa.go (ZaT rfl rfl (rfl) rfl rw35 rfl) ?_
            refine Zaa.go (Zau (cc he) rfl rfl) ?_;refine Zaa.go (Zad rfl rfl) ?_
            first | refine Zaa.go (ZaE rfl rfl rfl) ?_ | refine Zaa.go (ZaF rfl rfl rfl) ?_
            first | refine Zaa.go (ZaE rfl rfl rfl) ?_ | refine Zaa.go (ZaF rfl rfl rfl) ?_
            first | refine Zaa.go (ZaE rfl rfl rfl) ?_ | refine Zaa.go (ZaF rfl rfl rfl) ?_
            refine Zaa.go (Zac rfl rfl) ?_;refine Zaa.go (Zac rfl rfl) ?_;refine Zaa.go (Zac rfl rfl) ?_;refine Zae ?_;refine Zaf ?_;refine Zab ?_;refine Zaa.go (Zad rfl rfl) ?_
            first | refine Zaa.go (Za6 rfl rfl rfl) ?_ | refine Zaa.go (ZaZ rfl rfl rfl) ?_ | refine Zaa.go (st_eqlS rfl rfl rfl) ?_ | refine Zaa.go (st_eqlB Tryz.underlying29 rfl rfl rfl) ?_ | refine Zaa.go (st_eqlP Tryz.underlying29 rfl rfl rfl) ?_ | refine Zaa.go (ZbY Tryz.underlying29 rfl rfl) ?_ | refine Zaa.go (st_eqlF Tryz.underlying29 rfl rfl rfl) ?_ | refine Zaa.go (Zce Tryz.underlying29 rfl rfl) ?_
            refine Zaa.go (Zad rfl rfl) ?_;refine ZbS 101 rfl (rfl) ?_;refine Zam rfl rfl rfl ?_;refine Zaa.go (Zad rfl rfl) ?_;refine Zam rfl rfl rfl ?_
            first | refine Zaa.go (Za6 rfl rfl rfl) ?_ | refine Zaa.go (ZaZ rfl rfl rfl) ?_ | refine Zaa.go (st_eqlS rfl rfl rfl) ?_ | refine Zaa.go (st_eqlB Tryz.underlying3 rfl rfl rfl) ?_ | refine Zaa.go (st_eqlP Tryz.underlying3 rfl rfl rfl) ?_ | refine Zaa.go (ZbY Tryz.underlying3 rfl rfl) ?_ | refine Zaa.go (st_eqlF Tryz.underlying3 rfl rfl rfl) ?_ | refine Zaa.go (Zce Tryz.underlying3 rfl rfl) ?_
            refine Zaa.go (Zav rfl rfl rfl rfl) ?_;refine Zal.go (ZaD rfl rfl rfl rfl rfl rfl rfl sz4) ?_;refine Zae ?_;refine Zao ?_;exact ⟨_, [], [], Zan rfl, rfl, rfl, rfl, rfl⟩
          · refine Zaa.go (Zau (cse' _ he) rfl rfl) ?_;refine Zaa.go (Zad rfl rfl) ?_
            first | refine Zaa.go (ZaE rfl rfl rfl) ?_ | refine Zaa.go (ZaF rfl rfl rfl) ?_
            first | refine Zaa.go (ZaE rfl rfl rfl) ?_ | refine Zaa.go (ZaF rfl rfl rfl) ?_
            refine Zal.go (ZaR 6 zl35 rfl rfl rfl rfl) ?_;refine Zal.go (ZaD rfl rfl rfl rfl rfl rfl rfl sz35) ?_;refine Zaa.go (Zac rfl rfl) ?_;refine Zae ?_;refine Zaf ?_;refine Zaf ?_;refine Zab ?_;refine Zaa.go (Zad rfl rfl) ?_
            first | refine Zaa.go (Za3 rfl rfl rfl) ?_ | refine Zaa.go (Zbb rfl rfl rfl) ?_ | refine Zaa.go (Zbx rfl rfl rfl) ?_ | refine Zaa.go (ZbD Tryz.underlying29 rfl rfl rfl) ?_ | refine Zaa.go (ZbB Tryz.underlying29 rfl rfl rfl) ?_ | refine Zaa.go (st_neqN Tryz.underlying29 rfl rfl) ?_ | refine Zaa.go (ZbC Tryz.underlying29 rfl rfl rfl) ?_ | refine Zaa.go (st_neqFN Tryz.underlying29 rfl rfl) ?_
            refine Zae ?_;refine ZaS rfl (rfl) ?_;refine Zaf ?_;refine Zab ?_;refine Zaa.go (Zad rfl rfl) ?_
            first | refine Zaa.go (Za6 rfl rfl rfl) ?_ | refine Zaa.go (ZaZ rfl rfl rfl) ?_ | refine Zaa.go (st_eqlS rfl rfl rfl) ?_ | refine Zaa.go (st_eqlB Tryz.underlying29 rfl rfl rfl) ?_ | refine Zaa.go (st_eqlP Tryz.underlying29 rfl rfl rfl) ?_ | refine Zaa.go (ZbY Tryz.underlying29 rfl rfl) ?_ | refine Zaa.go (st_eqlF Tryz.underlying29 rfl rfl rfl) ?_ | refine Zaa.go (Zce Tryz.underlying29 rfl rfl) ?_
            refine Zal.go (ZaD rfl rfl rfl rfl rfl rfl rfl sz4) ?_;refine Zae ?_;refine Zao ?_;exact ⟨_, [], [], Zan rfl, rfl, rfl, rfl, rfl⟩
      · have hpp : prbE p ≠ 0 := hp;refine ZaB Tryz.func12 rfl rfl Tryz.ntmps12 rfl rfl rfl fun F hF => ?_;refine Zaf ?_;refine Zab ?_;refine Zal.go (ZaP 1 rfl rfl rfl rfl rfl rfl rfl) ?_;refine Zal.go (ZaR 2 zl4 rfl rfl rfl rfl) ?_;refine Zae ?_;refine Zaf ?_;refine Zaf ?_;refine Zab ?_
        first | refine Zaa.go (ZaA rfl rfl rw25 rfl) ?_ | refine Zaa.go (Zar rfl rfl rw25 rfl rfl rfl) ?_ | refine Zaa.go (ZaT rfl rfl (rfl) rfl rw25 rfl) ?_
        refine Zaa.go (Zau (hs) rfl rfl) ?_
        first | refine Zaa.go (Zbd rfl rfl) ?_ | refine Zaa.go (Zbu rfl rfl) ?_
        refine Zaa.go (Zad rfl rfl) ?_;refine o_setF 20 rfl (rfl) ?_;refine Zam rfl rfl rfl ?_
        first | refine Zaa.go (Zah rfl Zbl rfl rfl rfl) ?_ | refine Zaa.go (ZaH rfl Zbl rfl rfl rfl) ?_ | refine Zaa.go (ZaN rfl Zbl rfl rfl rfl) ?_ | refine Zaa.go (ZaW rfl Zbl rfl rfl rfl) ?_
        refine Zam rfl rfl rfl ?_
        first | refine Zaa.go (Zas rfl rfl on23 rfl) ?_ | refine Zaa.go (Zai rfl rfl rfl on23 rfl) ?_ | refine Zaa.go (ZaI rfl rfl (rfl) rfl on23 rfl) ?_
        refine Zam rfl rfl rfl ?_
        first | refine Zaa.go (Zax rfl Tryz.underlying23 rfl) ?_ | refine Zaa.go (Zbr rfl rfl Tryz.underlying23 rfl) ?_ | refine Zaa.go (Zbq rfl Tryz.underlying23 rfl) ?_ | refine Zaa.go (Zbj rfl Tryz.underlying23 rfl) ?_ | refine Zaa.go (Zbp rfl Tryz.underlying23 rfl) ?_
        refine Zam rfl rfl rfl ?_
        first | refine Zaa.go (Zbv rfl rfl rfl) ?_ | refine Zaa.go (st_gtrS rfl rfl rfl) ?_
        refine Zaa.go (ZaC rfl rfl rfl rfl) ?_;refine Zaa.go (Zad rfl rfl) ?_;refine o_setF 26 rfl ((decide_eq_false (by omega))) ?_;refine Zam rfl rfl rfl ?_
        first | refine Zaa.go (ZaA rfl rfl rw25 rfl) ?_ | refine Zaa.go (Zar rfl rfl rw25 rfl rfl rfl) ?_ | refine Zaa.go (ZaT rfl rfl (rfl) rfl rw25 rfl) ?_
        refine Zam rfl rfl rfl ?_;refine Zaa.go (Zau (ck) rfl rfl) ?_;refine Zam rfl rfl rfl ?_
        first | refine Zaa.go (Za3 rfl rfl rfl) ?_ | refine Zaa.go (Zbb rfl rfl rfl) ?_ | refine Zaa.go (Zbx rfl rfl rfl) ?_ | refine Zaa.go (ZbD Tryz.underlying3 rfl rfl rfl) ?_ | refine Zaa.go (ZbB Tryz.underlying3 rfl rfl rfl) ?_ | refine Zaa.go (st_neqN Tryz.underlying3 rfl rfl) ?_ | refine Zaa.go (ZbC Tryz.underlying3 rfl rfl rfl) ?_ | refine Zaa.go (st_neqFN Tryz.underlying3 rfl rfl) ?_
        refine Zaa.go (ZaC rfl rfl rfl rfl) ?_;refine Zaa.go (Zad rfl rfl) ?_;refine ZbS 31 rfl ((decide_eq_true hpp)) ?_;refine Zak rfl rfl rfl rfl ?_;refine Zak rfl rfl rfl rfl ?_;refine Zaa.go (Zav rfl rfl rfl rfl) ?_;refine Zae ?_;refine ZaS rfl rfl ?_;refine Zaf ?_;refine Zab ?_;refine Zaa.go (Zau (hk) rfl rfl) ?_;refine Zal.go (ZaD rfl rfl rfl rfl rfl rfl rfl sz4) ?_;refine Zae ?_;refine Zao ?_;exact ⟨_, [], [], Zan rfl, rfl, rfl, rfl, rfl⟩
    · have hpp : ¬ p.it.length ≤ 7 := h7;refine ZaB Tryz.func12 rfl rfl Tryz.ntmps12 rfl rfl rfl fun F hF => ?_;refine Zaf ?_;refine Zab ?_;refine Zal.go (ZaP 1 rfl rfl rfl rfl rfl rfl rfl) ?_;refine Zal.go (ZaR 2 zl4 rfl rfl rfl rfl) ?_;refine Zae ?_;refine Zaf ?_;refine Zaf ?_;refine Zab ?_
      first | refine Zaa.go (ZaA rfl rfl rw25 rfl) ?_ | refine Zaa.go (Zar rfl rfl rw25 rfl rfl rfl) ?_ | refine Zaa.go (ZaT rfl rfl (rfl) rfl rw25 rfl) ?_
      refine Zaa.go (Zau (hs) rfl rfl) ?_
      first | refine Zaa.go (Zbd rfl rfl) ?_ | refine Zaa.go (Zbu rfl rfl) ?_
      refine Zaa.go (Zad rfl rfl) ?_;refine o_setF 20 rfl (rfl) ?_;refine Zam rfl rfl rfl ?_
      first | refine Zaa.go (Zah rfl Zbl rfl rfl rfl) ?_ | refine Zaa.go (ZaH rfl Zbl rfl rfl rfl) ?_ | refine Zaa.go (ZaN rfl Zbl rfl rfl rfl) ?_ | refine Zaa.go (ZaW rfl Zbl rfl rfl rfl) ?_
      refine Zam rfl rfl rfl ?_
      first | refine Zaa.go (Zas rfl rfl on23 rfl) ?_ | refine Zaa.go (Zai rfl rfl rfl on23 rfl) ?_ | refine Zaa.go (ZaI rfl rfl (rfl) rfl on23 rfl) ?_
      refine Zam rfl rfl rfl ?_
      first | refine Zaa.go (Zax rfl Tryz.underlying23 rfl) ?_ | refine Zaa.go (Zbr rfl rfl Tryz.underlying23 rfl) ?_ | refine Zaa.go (Zbq rfl Tryz.underlying23 rfl) ?_ | refine Zaa.go (Zbj rfl Tryz.underlying23 rfl) ?_ | refine Zaa.go (Zbp rfl Tryz.underlying23 rfl) ?_
      refine Zam rfl rfl rfl ?_
      first | refine Zaa.go (Zbv rfl rfl rfl) ?_ | refine Zaa.go (st_gtrS rfl rfl rfl) ?_
      refine Zaa.go (ZaC rfl rfl rfl rfl) ?_;refine Zaa.go (Zad rfl rfl) ?_;refine ZbS 26 rfl ((decide_eq_true (by omega))) ?_;refine Zak rfl rfl rfl rfl ?_;refine Zak rfl rfl rfl rfl ?_;refine Zak rfl rfl rfl rfl ?_;refine Zaa.go (Zav rfl rfl rfl rfl) ?_;refine Zaa.go (Zad rfl rfl) ?_;refine Zak rfl rfl rfl rfl ?_;refine Zak rfl rfl rfl rfl ?_;refine Zaa.go (Zav rfl rfl rfl rfl) ?_;refine Zae ?_;refine ZaS rfl rfl ?_;refine Zaf ?_;refine Zab ?_;refine Zaa.go (Zau (hk) rfl rfl) ?_;refine Zal.go (ZaD rfl rfl rfl rfl rfl rfl rfl sz4) ?_;refine Zae ?_;refine Zao ?_;exact ⟨_, [], [], Zan rfl, rfl, rfl, rfl, rfl⟩
  · rw [decide_eq_false hf] at hs;refine ZaB Tryz.func12 rfl rfl Tryz.ntmps12 rfl rfl rfl fun F hF => ?_;refine Zaf ?_;refine Zab ?_;refine Zal.go (ZaP 1 rfl rfl rfl rfl rfl rfl rfl) ?_;refine Zal.go (ZaR 2 zl4 rfl rfl rfl rfl) ?_;refine Zae ?_;refine Zaf ?_;refine Zaf ?_;refine Zab ?_
    first | refine Zaa.go (ZaA rfl rfl rw25 rfl) ?_ | refine Zaa.go (Zar rfl rfl rw25 rfl rfl rfl) ?_ | refine Zaa.go (ZaT rfl rfl (rfl) rfl rw25 rfl) ?_
    refine Zaa.go (Zau (hs) rfl rfl) ?_
    first | refine Zaa.go (Zbd rfl rfl) ?_ | refine Zaa.go (Zbu rfl rfl) ?_
    refine Zaa.go (Zad rfl rfl) ?_;refine ZbS 20 rfl (rfl) ?_;refine Zak rfl rfl rfl rfl ?_;refine Zak rfl rfl rfl rfl ?_;refine Zak rfl rfl rfl rfl ?_;refine Zak rfl rfl rfl rfl ?_;refine Zaa.go (Zav rfl rfl rfl rfl) ?_;refine Zaa.go (Zad rfl rfl) ?_;refine Zak rfl rfl rfl rfl ?_;refine Zak rfl rfl rfl rfl ?_;refine Zak rfl rfl rfl rfl ?_;refine Zaa.go (Zav rfl rfl rfl rfl) ?_;refine Zaa.go (Zad rfl rfl) ?_;refine Zak rfl rfl rfl rfl ?_;refine Zak rfl rfl rfl rfl ?_;refine Zaa.go (Zav rfl rfl rfl rfl) ?_;refine Zae ?_;refine ZaS rfl rfl ?_;refine Zaf ?_;refine Zab ?_;refine Zaa.go (Zau (hk) rfl rfl) ?_;refine Zal.go (ZaD rfl rfl rfl rfl rfl rfl rfl sz4) ?_;refine Zae ?_;refine Zao ?_;exact ⟨_, [], [], Zan rfl, rfl, rfl, rfl, rfl⟩
end Go.Proofs.YtnamabifclidmaaGreat
/- Layer 28: how the laws' arguments are opened. -/
namespace Go.Proofs.YtnamabifclidmaaGreat
open Go.ChangeShapes Go.WideShapes Go.ChangeAt Go.RowKit

section
variable {H : Type} {enc : TypeId × Value → H} {w : World}
abbrev tt {α : Type} : α → Prop := fun _ => True
theorem oI : OpenT enc Tryz.prog w 3 1 intD tt := (openI64 Tryz.underlying3).asQ id (fun _ _ => rfl) (fun _ _ => trivial)
theorem oJ : OpenT enc Tryz.prog w 2 1 intD tt := (openI64 Tryz.underlying2).asQ id (fun _ _ => rfl) (fun _ _ => trivial)
theorem oS : OpenT enc Tryz.prog w 9 1 strD tt := (openStrL Tryz.underlying9).asQ id (fun _ _ => rfl) (fun _ _ => trivial)
theorem oIs : OpenT enc Tryz.prog w 26 1 (fun l : List Int => .sl none (l.map intD)) tt := (openSl Tryz.underlying26 (by kernel_rfl) (by omega) (b := 8) (by kernel_rfl) oI).asQ id (fun _ _ => rfl) (fun _ _ => trivial)
theorem oAcc : OpenT enc Tryz.prog w 50 3 accD tt :=
  (openSt Tryz.underlying50 (by kernel_rfl) (openFc rfl (by kernel_rfl) oS (openFc rfl (by kernel_rfl) oI (openFc rfl (by kernel_rfl) oS openF0)))).asQ (fun a => (⟨a.1, a.2.1, a.2.2.1⟩ : Acc)) (fun _ _ => rfl) (fun _ _ => trivial)
theorem oPost : OpenT enc Tryz.prog w 144 4 postD tt :=
  (openSt Tryz.underlying144 (by kernel_rfl) (openFc rfl (by kernel_rfl) oAcc (openFc rfl (by kernel_rfl) oJ openF0))).asQ (fun a => (⟨a.1, a.2.1⟩ : Post)) (fun _ _ => rfl) (fun _ _ => trivial)
theorem oPay : OpenT enc Tryz.prog w 147 3 payD tt :=
  (openSt Tryz.underlying147 (by kernel_rfl) (openFc rfl (by kernel_rfl) oS (openFc rfl (by kernel_rfl) oS (openFc rfl (by kernel_rfl) oJ openF0)))).asQ (fun a => (⟨a.1, a.2.1, a.2.2.1⟩ : Pay)) (fun _ _ => rfl) (fun _ _ => trivial)
theorem oRsc : OpenT enc Tryz.prog w 52 6 rscD tt :=
  (openSt Tryz.underlying52 (by kernel_rfl) (openFc rfl (by kernel_rfl) oI (openFc rfl (by kernel_rfl) oAcc (openFc rfl (by kernel_rfl) oS (openFc rfl (by kernel_rfl) oS openF0))))).asQ (fun a => (⟨a.1, a.2.1, a.2.2.1, a.2.2.2.1⟩ : Rsc)) (fun _ _ => rfl) (fun _ _ => trivial)
theorem oItm : OpenT enc Tryz.prog w 80 6 itmD tt :=
  (openSt Tryz.underlying80 (by kernel_rfl) (openFc rfl (by kernel_rfl) oI (openFc rfl (by kernel_rfl) oI (openFc rfl (by kernel_rfl) oI
    (openFc rfl (by kernel_rfl) (openSl Tryz.underlying77 (by kernel_rfl) (by omega) (b := 48) (by kernel_rfl) oPost)
    (openFc rfl (by kernel_rfl) (openSl Tryz.underlying78 (by kernel_rfl) (by omega) (b := 40) (by kernel_rfl) oPay) (openFc rfl (by kernel_rfl) oIs openF0))))))).asQ
    (fun a => (⟨a.1, a.2.1, a.2.2.1, a.2.2.2.1, a.2.2.2.2.1, a.2.2.2.2.2.1⟩ : Itm)) (fun _ _ => rfl) (fun _ _ => trivial)
theorem oRoo : OpenT enc Tryz.prog w 104 7 rooD tt :=
  (openSt Tryz.underlying104 (by kernel_rfl) (openFc rfl (by kernel_rfl) oRsc (openFc rfl (by kernel_rfl) oJ openF0))).asQ (fun a => (⟨a.1, a.2.1⟩ : Roo)) (fun _ _ => rfl) (fun _ _ => trivial)
theorem oPrb : OpenT enc Tryz.prog w 25 2 prbD tt :=
  (openSt Tryz.underlying25 (by kernel_rfl) (openFc rfl (by kernel_rfl) (openSl Tryz.underlying22 (by kernel_rfl) (by omega) (b := 88) (by kernel_rfl) oRoo) (openFc rfl (by kernel_rfl) (openSl Tryz.underlying23 (by kernel_rfl) (by omega) (b := 96) (by kernel_rfl) oItm) openF0))).asQ
    (fun a => (⟨a.1, a.2.1⟩ : Prb)) (fun _ _ => rfl) (fun _ _ => trivial)
end
end Go.Proofs.YtnamabifclidmaaGreat
/- 'girolaw29.FeasibleLargest': for every input the law returns true, and each argument reads behind the call as it read before. No condition. -/
namespace Go.Proofs.YtnamabifclidmaaGreat
open Go.ChangeShapes Go.WideShapes Go.ChangeAt Go.RowKit

set_option maxRecDepth 100000 in
theorem feasibleLargest_lifted (os : Os) (started : os.Started) (H : Type) (enc : TypeId × Value → H) :
    ReturnsInHanded {} Tryz.checked os 12 .any (Rows.feasibleLargestSpec.pre6 enc Tryz.prog Tryz.f12 Rows.feasibleLargestRow.domain false) (Rows.feasibleLargestSpec.post enc Tryz.prog Tryz.f12 false true false false) := by
  refine returnsInHanded_of_change_sized (C := Tryz.checked) Tryz.own started (by kernel_rfl) Tryz.func12
    (ChangeSpec.witness6 (enc := enc) (C := Tryz.checked) false ⟨#[], #[.agg #[.slice none 0 0, .slice none 0 0]], []⟩ 8 (by kernel_rfl) (by kernel_rfl) (by kernel_rfl) (by kernel_rfl)) ?_
  intro W base args ds gs before hval0 hW _ hwt _;have hW' := hW;obtain ⟨p, q, hA0, hV, rfl, _, _⟩ := hW;have hlt : ∀ x ∈ p ++ q, x.block < W.heap.size := fun x hx => hW'.lt x hx;have hA : DataW.TrodAll enc Tryz.prog W 0 (fun _ => true) true Tryz.f12.params.toList args.toList ds p := hA0;rw [Tryz.params12] at hA;obtain ⟨v0, d0, rfl, rfl, h0⟩ := trodAll_one hA;obtain ⟨rfl, rfl⟩ := trodVars_none hV;have hwz : ∀ n ∈ DataW.weightsEach Tryz.prog ([25] : List TypeId) ([d0]), n ≤ reachBytes := fun n hn => of_decide_eq_true (List.all_eq_true.1 hwt n (by rw [Tryz.params12]; exact hn));have hval : ∀ (j : Nat) t v, Tryz.f12.params[j]? = some t → (#[v0] : Array Value)[j]? = some v → Value.okWide Tryz.prog W .any base t v := hval0;rw [Tryz.params12] at hval;obtain ⟨n0, g0⟩ := h0;obtain ⟨cs0, rfl, _⟩ := okWide_struct Tryz.underlying25 (hval 0 25 v0 rfl rfl);obtain ⟨a0, q0, _, r0⟩ := (oPrb) _ _ _ g0 (fun x hx => hlt x (by simp [hx])) (fun n hn => hwz n (DataW.weights_mem_each (j := 0) (t := 25) rfl rfl n hn));refine (law_calls (lawFA_p a0) (vs := [.agg cs0]) rfl (fun i a v ha hv => ?_)).mono fun e W' ⟨he, hb⟩ => ?_
  · rcases i with _ | i
    · simp at ha hv; subst ha hv; exact RepC.argS rfl r0
    · simp at ha
  subst he;exact ⟨_, rfl, law_post (tb := 4) Tryz.laidOut (by kernel_rfl) rfl rfl Tryz.underlying4 hW' ⟨rfl, rfl, rfl⟩ hb⟩

theorem feasibleLargest_holds : Rows.FeasibleLargestSaid :=
  OpenClaim.holds_of_wide 12 Tryz.f12 rfl rfl rfl rfl rfl rfl rfl ⟨rfl, rfl, rfl, rfl, rfl⟩ rfl rfl rfl rfl rfl (by kernel_rfl) Tryz.func12 (by kernel_rfl)
    (of_decide_eq_true (by kernel_rfl)) (by unfold Func.isWrapper; first | (rw [if_pos (by decide +kernel)]; kernel_rfl) | (rw [if_neg (by decide +kernel)]; exact ⟨rfl, rfl⟩))
    (fun os started H enc _ => feasibleLargest_lifted os started H enc)
#print axioms feasibleLargest_holds

end Go.Proofs.YtnamabifclidmaaGreat
