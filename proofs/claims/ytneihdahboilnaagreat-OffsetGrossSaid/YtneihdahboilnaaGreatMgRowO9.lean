/- Proved here: offsetGross_holds, the given statement Rows.OffsetGrossSaid: the law girolaw30.OffsetGross returns true and does not panic, at every input that the statement speaks of; no condition beyond the statement. -/
/- 'girolaw30.OffsetGross': for every input the law returns true, and each argument reads behind the call as it read before. No condition. -/
import Derived.Test.YtneihdahboilnaaGreatMg26
namespace Go.Proofs.YtneihdahboilnaaGreat
open Go.RowKit
set_option maxRecDepth 100000 in
set_option maxHeartbeats 1000000 in
theorem lawO9_p (p : Prb) : PCalls Tryz.prog 6 [.d (prbD p)] (.raw (.bool true)) := by
  have hk := known30_p;have hs := few_p p 12 (by decide)
  by_cases hf : FewQ p 12
  · rw [decide_eq_true hf] at hs;have hF := few_of hf (by decide);have g1 := hF.i;have g2 := hF.r;have ck := refpcheck_p p (by omega) (by omega) (fun i hi => by have := hF.x i hi; omega);have c1 := own30_p p hF
    by_cases hp : prbE p = 0
    · rw [hp] at ck;have hll := large_len hp;have cg := gross_ok p hF hp;have cr := explain30_p p hF hp;rw [expl_eq hp hF] at cr;have cR := gross30_p p ⟨hF,roos_nodup hp,rooms_amt (ZbO hp).1⟩;rw [← grossS_eq hp hF] at cR;have hsl : (grossS p).length ≤ 30 := by have := runG_len (ros := rosS p) (its := ordP p) (ordP p).length fun _ => true; have h2 := ordP_len p; unfold grossS; omega
      have cs := same30_p (grossS p) (grossS p) (by omega) (by omega);rw [decide_eq_true rfl] at cs;have cb := subset30_p (grossS p) (largeS p) (by omega) (by omega);rw [decide_eq_true (grossS_sub hp hF)] at cb
      obtain ⟨X,hX⟩ : ∃ X,(explS p).1 = X := ⟨_,rfl⟩
      obtain ⟨U,hU⟩ : ∃ U,largeS p = U := ⟨_,rfl⟩
      obtain ⟨G,hG⟩ : ∃ G,grossS p = G := ⟨_,rfl⟩
      rw [hX,hU] at cr;rw [hG,hU] at cb;rw [hG] at cg cR cs;refine ZaB Tryz.func6 rfl rfl Tryz.ntmps6 rfl rfl rfl fun F hF => (Zad (Zab (Zaj.go (ZaS 1 rfl rfl rfl rfl rfl rfl rfl) (goAs rfl rfl (Zac (Zad (Zad (Zab ?_))))))))
      first | refine Zaa.go (ZaC rfl rfl rw25 rfl) ?_ | refine Zaa.go (Zas rfl rfl rw25 rfl rfl rfl) ?_ | refine Zaa.go (Zba rfl rfl (rfl) rfl rw25 rfl) ?_
      refine Zaa.go (Zau (hs) rfl rfl) ?_
      first | refine Zaa.go (Zbq rfl rfl) ?_ | refine Zaa.go (st_not rfl rfl) ?_
      refine Zac (Za9 rfl (rfl) (Zap (Zad (Zab ?_))))
      first | refine Zaa.go (ZaC rfl rfl rw25 rfl) ?_ | refine Zaa.go (Zas rfl rfl rw25 rfl rfl rfl) ?_ | refine Zaa.go (Zba rfl rfl (rfl) rfl rw25 rfl) ?_
      refine Zaa.go (Zau (c1) rfl rfl) (Zaa.go (Zau (cg) rfl rfl) (goMv rfl rfl ?_))
      first | refine Zaa.go (ZaR rfl rfl rfl) ?_ | refine Zaa.go (Za6 rfl rfl rfl) ?_
      first | refine Zaa.go (ZaR rfl rfl rfl) ?_ | refine Zaa.go (Za6 rfl rfl rfl) ?_
      refine goAs rfl rfl (goAs rfl rfl (Zac (Zad (Zad (Zab ?_)))))
      first | refine Zaa.go (ZaC rfl rfl rw25 rfl) ?_ | refine Zaa.go (Zas rfl rfl rw25 rfl rfl rfl) ?_ | refine Zaa.go (Zba rfl rfl (rfl) rfl rw25 rfl) ?_
      refine Zaa.go (Zau (ck) rfl rfl) (goAs rfl rfl (Zac (Zad (Zab (goMv rfl rfl ?_)))))
      first | refine Zaa.go (Zbi rfl rfl rfl) ?_ | refine Zaa.go (ZbU rfl rfl rfl) ?_ | refine Zaa.go (st_neqS rfl rfl rfl) ?_ | refine Zaa.go (st_neqB Tryz.underlying3 rfl rfl rfl) ?_ | refine Zaa.go (st_neqP Tryz.underlying3 rfl rfl rfl) ?_ | refine Zaa.go (st_neqN Tryz.underlying3 rfl rfl) ?_ | refine Zaa.go (st_neqF Tryz.underlying3 rfl rfl rfl) ?_ | refine Zaa.go (st_neqFN Tryz.underlying3 rfl rfl) ?_
      refine Zac (Za9 rfl (rfl) (Zap (Zad (Zab ?_))))
      first | refine Zaa.go (ZaC rfl rfl rw25 rfl) ?_ | refine Zaa.go (Zas rfl rfl rw25 rfl rfl rfl) ?_ | refine Zaa.go (Zba rfl rfl (rfl) rfl rw25 rfl) ?_
      refine Zaa.go (Zau (cr) rfl rfl) (goMv rfl rfl ?_)
      first | refine Zaa.go (ZaR rfl rfl rfl) ?_ | refine Zaa.go (Za6 rfl rfl rfl) ?_
      first | refine Zaa.go (ZaR rfl rfl rfl) ?_ | refine Zaa.go (Za6 rfl rfl rfl) ?_
      refine goAs rfl rfl (goAs rfl rfl (Zac (Zad (Zab (goMv rfl rfl ?_)))))
      first | refine Zaa.go (Zbn rfl rfl rfl) ?_ | refine Zaa.go (Za8 rfl rfl rfl) ?_ | refine Zaa.go (st_eqlS rfl rfl rfl) ?_ | refine Zaa.go (st_eqlB Tryz.underlying29 rfl rfl rfl) ?_ | refine Zaa.go (st_eqlP Tryz.underlying29 rfl rfl rfl) ?_ | refine Zaa.go (st_eqlN Tryz.underlying29 rfl rfl) ?_ | refine Zaa.go (st_eqlF Tryz.underlying29 rfl rfl rfl) ?_ | refine Zaa.go (st_eqlFN Tryz.underlying29 rfl rfl) ?_
      refine goMv rfl rfl (o_setT 40 rfl (rfl) (Zal rfl rfl rfl (goMv rfl rfl (Zal rfl rfl rfl ?_))))
      first | refine Zaa.go (ZaC rfl rfl rw25 rfl) ?_ | refine Zaa.go (Zas rfl rfl rw25 rfl rfl rfl) ?_ | refine Zaa.go (Zba rfl rfl (rfl) rfl rw25 rfl) ?_
      refine Zal rfl rfl rfl (Zaa.go (Zau (cR) rfl rfl) (Zal rfl rfl rfl (Zaa.go (Zau (cs) rfl rfl) ?_)));refine Zaa.go (Zaw rfl rfl rfl rfl) (goMv rfl rfl (o_setT 46 rfl (rfl) (Zal rfl rfl rfl (goMv rfl rfl (Zal rfl rfl rfl (goMv rfl rfl (Zal rfl rfl rfl (Zaa.go (Zau (cb) rfl rfl) ?_))))))));refine Zaa.go (Zaw rfl rfl rfl rfl) (goMv rfl rfl (o_setT 51 rfl (rfl) (Zal rfl rfl rfl (Zaa.go (Zau (hk) rfl rfl) (Zaa.go (Zaw rfl rfl rfl rfl) (goAs rfl rfl (Zac (Zao ?_))))))));exact ⟨_,[],[],Zak rfl,rfl,rfl,rfl,rfl⟩
    · have cl := gross_bad p hF hp;refine ZaB Tryz.func6 rfl rfl Tryz.ntmps6 rfl rfl rfl fun F hF => (Zad (Zab (Zaj.go (ZaS 1 rfl rfl rfl rfl rfl rfl rfl) (goAs rfl rfl (Zac (Zad (Zad (Zab ?_))))))))
      first | refine Zaa.go (ZaC rfl rfl rw25 rfl) ?_ | refine Zaa.go (Zas rfl rfl rw25 rfl rfl rfl) ?_ | refine Zaa.go (Zba rfl rfl (rfl) rfl rw25 rfl) ?_
      refine Zaa.go (Zau (hs) rfl rfl) ?_
      first | refine Zaa.go (Zbq rfl rfl) ?_ | refine Zaa.go (st_not rfl rfl) ?_
      refine Zac (Za9 rfl (rfl) (Zap (Zad (Zab ?_))))
      first | refine Zaa.go (ZaC rfl rfl rw25 rfl) ?_ | refine Zaa.go (Zas rfl rfl rw25 rfl rfl rfl) ?_ | refine Zaa.go (Zba rfl rfl (rfl) rfl rw25 rfl) ?_
      refine Zaa.go (Zau (c1) rfl rfl) (Zaa.go (Zau (cl) rfl rfl) (goMv rfl rfl ?_))
      first | refine Zaa.go (ZaR rfl rfl rfl) ?_ | refine Zaa.go (Za6 rfl rfl rfl) ?_
      first | refine Zaa.go (ZaR rfl rfl rfl) ?_ | refine Zaa.go (Za6 rfl rfl rfl) ?_
      refine goAs rfl rfl (goAs rfl rfl (Zac (Zad (Zad (Zab ?_)))))
      first | refine Zaa.go (ZaC rfl rfl rw25 rfl) ?_ | refine Zaa.go (Zas rfl rfl rw25 rfl rfl rfl) ?_ | refine Zaa.go (Zba rfl rfl (rfl) rfl rw25 rfl) ?_
      refine Zaa.go (Zau (ck) rfl rfl) (goAs rfl rfl (Zac (Zad (Zab (goMv rfl rfl ?_)))))
      first | refine Zaa.go (Zbi rfl rfl rfl) ?_ | refine Zaa.go (ZbU rfl rfl rfl) ?_ | refine Zaa.go (st_neqS rfl rfl rfl) ?_ | refine Zaa.go (st_neqB Tryz.underlying3 rfl rfl rfl) ?_ | refine Zaa.go (st_neqP Tryz.underlying3 rfl rfl rfl) ?_ | refine Zaa.go (st_neqN Tryz.underlying3 rfl rfl) ?_ | refine Zaa.go (st_neqF Tryz.underlying3 rfl rfl rfl) ?_ | refine Zaa.go (st_neqFN Tryz.underlying3 rfl rfl) ?_
      refine Zac (ZaU rfl ((decide_eq_true hp)) (Zad (Zab (goMv rfl rfl (goMv rfl rfl ?_)))))
      first | refine Zaa.go (Zbn rfl rfl rfl) ?_ | refine Zaa.go (Za8 rfl rfl rfl) ?_ | refine Zaa.go (st_eqlS rfl rfl rfl) ?_ | refine Zaa.go (st_eqlB Tryz.underlying3 rfl rfl rfl) ?_ | refine Zaa.go (st_eqlP Tryz.underlying3 rfl rfl rfl) ?_ | refine Zaa.go (st_eqlN Tryz.underlying3 rfl rfl) ?_ | refine Zaa.go (st_eqlF Tryz.underlying3 rfl rfl rfl) ?_ | refine Zaa.go (st_eqlFN Tryz.underlying3 rfl rfl) ?_
      refine goMv rfl rfl (o_setT 25 rfl ((decide_eq_true rfl)) (Zal rfl rfl rfl (goMv rfl rfl (Zal rfl rfl rfl ?_))))
      first | refine Zaa.go (ZaA rfl Tryz.underlying28 rfl) ?_ | refine Zaa.go (st_lenD rfl rfl Tryz.underlying28 rfl) ?_ | refine Zaa.go (st_lenO rfl Tryz.underlying28 rfl) ?_ | refine Zaa.go (st_lenSL rfl Tryz.underlying28 rfl) ?_ | refine Zaa.go (st_lenN rfl Tryz.underlying28 rfl) ?_ | refine Zaa.go (st_lenS rfl Tryz.underlying28 rfl) ?_
      refine Zal rfl rfl rfl ?_
      first | refine Zaa.go (Zbn rfl rfl rfl) ?_ | refine Zaa.go (Za8 rfl rfl rfl) ?_ | refine Zaa.go (st_eqlS rfl rfl rfl) ?_ | refine Zaa.go (st_eqlB Tryz.underlying3 rfl rfl rfl) ?_ | refine Zaa.go (st_eqlP Tryz.underlying3 rfl rfl rfl) ?_ | refine Zaa.go (st_eqlN Tryz.underlying3 rfl rfl) ?_ | refine Zaa.go (st_eqlF Tryz.underlying3 rfl rfl rfl) ?_ | refine Zaa.go (st_eqlFN Tryz.underlying3 rfl rfl) ?_
      refine Zaa.go (Zaw rfl rfl rfl rfl) (goMv rfl rfl (o_setT 30 rfl (rfl) (Zal rfl rfl rfl (Zaa.go (Zau (hk) rfl rfl) (Zaa.go (Zaw rfl rfl rfl rfl) (goAs rfl rfl (Zac (Zao ?_))))))));exact ⟨_,[],[],Zak rfl,rfl,rfl,rfl,rfl⟩
  · rw [decide_eq_false hf] at hs;refine ZaB Tryz.func6 rfl rfl Tryz.ntmps6 rfl rfl rfl fun F hF => (Zad (Zab (Zaj.go (ZaS 1 rfl rfl rfl rfl rfl rfl rfl) (goAs rfl rfl (Zac (Zad (Zad (Zab ?_))))))))
    first | refine Zaa.go (ZaC rfl rfl rw25 rfl) ?_ | refine Zaa.go (Zas rfl rfl rw25 rfl rfl rfl) ?_ | refine Zaa.go (Zba rfl rfl (rfl) rfl rw25 rfl) ?_
    refine Zaa.go (Zau (hs) rfl rfl) ?_
    first | refine Zaa.go (Zbq rfl rfl) ?_ | refine Zaa.go (st_not rfl rfl) ?_
    refine Zac (ZaU rfl (rfl) (Zad (Zab (Zaa.go (Zau (hk) rfl rfl) (goAs rfl rfl (Zac (Zao ?_)))))));exact ⟨_,[],[],Zak rfl,rfl,rfl,rfl,rfl⟩
end Go.Proofs.YtneihdahboilnaaGreat
namespace Go.Proofs.YtneihdahboilnaaGreat
open Go.ChangeShapes Go.WideShapes Go.ChangeAt Go.RowKit
set_option maxRecDepth 100000 in
theorem offsetGross_lifted (os : Os) (started : os.Started) (H : Type) (enc : TypeId × Value → H) :
    ReturnsInHanded {} Tryz.checked os 6 .any (Rows.offsetGrossSpec.pre6 enc Tryz.prog Tryz.f6 Rows.offsetGrossRow.domain false) (Rows.offsetGrossSpec.post enc Tryz.prog Tryz.f6 false true false false) := by
  refine returnsInHanded_of_change_sized (C := Tryz.checked) Tryz.own started (by kernel_rfl) Tryz.func6
    (ChangeSpec.witness6 (enc := enc) (C := Tryz.checked) false ⟨#[], #[.agg #[.slice none 0 0, .slice none 0 0]],[]⟩ 8 (by kernel_rfl) (by kernel_rfl) (by kernel_rfl) (by kernel_rfl)) ?_
  intro W base args ds gs before hval0 hW _ hwt _;have hW' := hW;obtain ⟨p,q,hA0,hV,rfl,_,_⟩ := hW;have hlt : ∀ x ∈ p ++ q,x.block < W.heap.size := fun x hx => hW'.lt x hx;have hA : DataW.TrodAll enc Tryz.prog W 0 (fun _ => true) true Tryz.f6.params.toList args.toList ds p := hA0;rw [Tryz.params6] at hA;obtain ⟨v0,d0,rfl,rfl,h0⟩ := trodAll_one hA;obtain ⟨rfl,rfl⟩ := trodVars_none hV;have hwz : ∀ n ∈ DataW.weightsEach Tryz.prog ([25] : List TypeId) ([d0]),n ≤ reachBytes := fun n hn => of_decide_eq_true (List.all_eq_true.1 hwt n (by rw [Tryz.params6]; exact hn));have hval : ∀ (j : Nat) t v,Tryz.f6.params[j]? = some t → (#[v0] : Array Value)[j]? = some v → Value.okWide Tryz.prog W .any base t v := hval0;rw [Tryz.params6] at hval;obtain ⟨n0,g0⟩ := h0;obtain ⟨cs0,rfl,_⟩ := okWide_struct Tryz.underlying25 (hval 0 25 v0 rfl rfl);obtain ⟨a0,q0,_,r0⟩ := (oPrb) _ _ _ g0 (fun x hx => hlt x (by simp [hx])) (fun n hn => hwz n (DataW.weights_mem_each (j := 0) (t := 25) rfl rfl n hn));refine (law_calls (lawO9_p a0) (vs := [.agg cs0]) rfl (fun i a v ha hv => ?_)).mono fun e W' ⟨he,hb⟩ => ?_
  · rcases i with _ | i
    · simp at ha hv; subst ha hv; exact RepC.argS rfl r0
    · simp at ha
  subst he;exact ⟨_,rfl,law_post (tb := 4) Tryz.laidOut (by kernel_rfl) rfl rfl Tryz.underlying4 hW' ⟨rfl,rfl,rfl⟩ hb⟩
theorem offsetGross_holds : Rows.OffsetGrossSaid :=
  OpenClaim.holds_of_wide 6 Tryz.f6 rfl rfl rfl rfl rfl rfl rfl ⟨rfl,rfl,rfl,rfl,rfl⟩ rfl rfl rfl rfl rfl (by kernel_rfl) Tryz.func6 (by kernel_rfl)
    (of_decide_eq_true (by kernel_rfl)) (by unfold Func.isWrapper; first | (rw [if_pos (by decide +kernel)]; kernel_rfl) | (rw [if_neg (by decide +kernel)]; exact ⟨rfl,rfl⟩))
    (fun os started H enc _ => offsetGross_lifted os started H enc)
#print axioms offsetGross_holds
end Go.Proofs.YtneihdahboilnaaGreat
