/- Proved here: systemUnion_holds, the given statement Rows.SystemUnionSaid: the law girotop.SystemUnion returns true and does not panic, at every input that the statement speaks of; no condition beyond the statement. -/
/- 'girotop.SystemUnion': for every input the law returns true, and each argument reads behind the call as it read before. No condition. -/
import Derived.Test.YtnkkaeblokdifaaGreatMg24
namespace Go.Proofs.YtnkkaeblokdifaaGreat
open Go.RowKit
theorem few_sml {p:Prb} (hf:Sml p):Gu p:=⟨by have:=hf.1;omega,by have:=hf.2.1;omega,fun x hx=>by have:=hf.2.2 x hx;omega⟩
set_option maxRecDepth 100000 in
set_option maxHeartbeats 1000000 in
theorem lawY1_p (p:Prb):AT Tryz.prog 3 [.d (CT p)] (.raw (.bool true)):=by
 have hk:=X7;have hs:=small_p p
 by_cases hf:Sml p
 ·rw [decide_eq_true hf] at hs;have g1:=hf.1;have g2:=hf.2.1;have g3:=hf.2.2;have c1:=own_p p hf;have hw:=few_sml hf
  by_cases hp:Ab p=0
  ·have cu:=WA p (sml_B hf) hp (by omega) (by omega);have huq:listS (smlOf p) (Rv (smlOf p))=Lm p:=rfl;rw [huq] at cu;have cl:=Se p hw hp;obtain ⟨hl1,hl2⟩:=U5 hp hw
   have hLl:(largeS p).length≤12:=by
    have:=Ou (El hp).1 (YV (N8 hp).2.1) (El hp).2;rw [List.length_map] at this;omega
   obtain ⟨U,hU⟩:∃U,Lm p=U:=⟨_,rfl⟩
   obtain ⟨L,hL⟩:∃L,largeS p=L:=⟨_,rfl⟩
   rw [hU] at cu hl1 hl2;rw [hL] at cl hl1 hl2 hLl;refine B6 Tryz.func3 Z Z Tryz.ntmps3 Z Z Z fun F hF=>?_;refine AG (AJ (G (CV 1 Z Z Z Z Z Z Z) (AD Z Z (AI (AG (AG (AJ (J (BO (hk) Z Z) ?_))))))))
   first | refine J (G9 Z Z) ?_ | refine J (GJ Z Z) ?_
   refine AC Z Z (HL 11 rfl (rfl) (A9 Z Z Z ?_))
   first | refine J (At Z Z I9 rfl) ?_ | refine J (Au Z Z I9 Z Z Z) ?_ | refine J (Av Z Z (rfl) rfl I9 rfl) ?_
   refine A9 Z Z Z (J (BO (hs) Z Z) (A9 Z Z Z ?_))
   first | refine J (G9 Z Z) ?_ | refine J (GJ Z Z) ?_
   refine J (EG Z Z Z Z) (AI (F4 rfl (rfl) (An (AG (AJ ?_)))))
   first | refine J (At Z Z I9 rfl) ?_ | refine J (Au Z Z I9 Z Z Z) ?_ | refine J (Av Z Z (rfl) rfl I9 rfl) ?_
   refine J (BO (c1) Z Z) (G (DT 2 Rp Z Z Z Z) (G (CC Z Z Z Z Z Z Z sz31) (AI (AG (AJ ?_)))))
   first | refine J (At Z Z A2 rfl) ?_ | refine J (Au Z Z A2 Z Z Z) ?_ | refine J (Av Z Z (rfl) rfl A2 rfl) ?_
   refine J (BO (cu) Z Z) (AC Z Z ?_)
   first | refine J (BU Z Z Z) ?_ | refine J (BV Z Z Z) ?_
   first | refine J (BU Z Z Z) ?_ | refine J (BV Z Z Z) ?_
   refine AD Z Z (AD Z Z (AI (AG (AJ ?_))))
   first | refine J (At Z Z A2 rfl) ?_ | refine J (Au Z Z A2 Z Z Z) ?_ | refine J (Av Z Z (rfl) rfl A2 rfl) ?_
   refine J (BO (cl) Z Z) (AC Z Z ?_)
   first | refine J (BU Z Z Z) ?_ | refine J (BV Z Z Z) ?_
   first | refine J (BU Z Z Z) ?_ | refine J (BV Z Z Z) ?_
   refine AD Z Z (AD Z Z (AI (AG (AG (AJ (AC Z Z (AC Z Z ?_)))))))
   first | refine J (Ec Z Z Z) ?_ | refine J (Eb Z Z Z) ?_ | refine J (EV Z Z Z) ?_ | refine J (E8 Tryz.underlying34 Z Z Z) ?_ | refine J (Ea Tryz.underlying34 Z Z Z) ?_ | refine J (st_neqN Tryz.underlying34 Z Z) ?_ | refine J (E9 Tryz.underlying34 Z Z Z) ?_ | refine J (st_neqFN Tryz.underlying34 Z Z) ?_
   refine AC Z Z (HL 32 rfl (rfl) ?_);refine A9 Z Z Z (AC Z Z (A9 Z Z Z (J (C1 rfl (List.length_map ..) Tryz.underlying33 rfl) (A9 Z Z Z (AC Z Z (A9 Z Z Z (J (C1 rfl (List.length_map ..) Tryz.underlying33 rfl) (A9 Z Z Z ?_))))))))
   first | refine J (Ec Z Z Z) ?_ | refine J (Eb Z Z Z) ?_ | refine J (EV Z Z Z) ?_ | refine J (E8 Tryz.underlying3 Z Z Z) ?_ | refine J (Ea Tryz.underlying3 Z Z Z) ?_ | refine J (st_neqN Tryz.underlying3 Z Z) ?_ | refine J (E9 Tryz.underlying3 Z Z Z) ?_ | refine J (st_neqFN Tryz.underlying3 Z Z) ?_
   refine J (EG Z Z Z Z) (AI ?_);refine F4 rfl ((decide_eq_false (by omega))) (An (AG (AG (AJ (AD Z Z (AI (Aw (EN (α:=Nat) (fun k=>⟨52,[(4,(.d (.sl none (U.map AF)))),(6,(.d (.sl none (L.map AF)))),(8,(.d (AF (k:Int))))],[]⟩) (fun k=>k≤L.length) (fun k=>L.length - k) (0) (Nat.zero_le _) (BS hF [] Z Z ⟨rfl,rfl,rfl,trivial⟩) ?_))))))));intro k hk0;refine AG (AG (AJ (AC Z Z (AC Z Z (J (C1 rfl (List.length_map ..) Tryz.underlying33 rfl) ?_)))))
   first | refine J (Cc Z Z Z) ?_ | refine J (Cb Z Z Z) ?_
   refine AI ?_
   first | refine BP rfl (fun h42=>?_) (fun h42=>?_) | refine BK rfl (fun h42=>?_) (fun h42=>?_)
   ·refine An (AG (Aw (AG ?_)));have hkl:k<L.length:=EF h42;refine AJ (AC Z Z (AC Z Z (AC Z Z ?_)))
    first | refine J (Ch (k) Z Z (rfl) (A3 hkl) Tryz.underlying33 rfl Et rfl) ?_ | refine J (Cj (k) Z Z (rfl) (A3 hkl) rfl Tryz.underlying33 Et rfl) ?_
    first | refine J (A0 Z Z Aa rfl) ?_ | refine J (AX Z Z Z Aa rfl) ?_ | refine J (AZ Z Z (rfl) rfl Aa rfl) ?_
    refine J (BO (hasS_p U L[k] (by omega)) Z Z) ?_
    first | refine J (G9 Z Z) ?_ | refine J (GJ Z Z) ?_
    refine AI (F4 rfl ((decide_eq_false fun h=>h (hl2 _ (List.getElem_mem hkl)))) (An (AJ (AC Z Z (J (By Z Z (IntWalk.i64_in _ (by omega)) rfl) (AD Z Z (AI ?_)))))));exact ⟨k+1,hkl,by omega,BS hF [] rfl (rfl) ⟨rfl,rfl,rfl,trivial⟩⟩
   ·refine Ct (AG (AJ (AD Z Z (AI (Af ?_)))));exact ⟨_,[],[],Ae rfl,rfl,rfl,rfl,rfl⟩
  ·have cu:=U6 p (sml_B hf) hp;have cl:=Qt p hw hp;refine B6 Tryz.func3 Z Z Tryz.ntmps3 Z Z Z fun F hF=>?_;refine AG (AJ (G (CV 1 Z Z Z Z Z Z Z) (AD Z Z (AI (AG (AG (AJ (J (BO (hk) Z Z) ?_))))))))
   first | refine J (G9 Z Z) ?_ | refine J (GJ Z Z) ?_
   refine AC Z Z (HL 11 rfl (rfl) (A9 Z Z Z ?_))
   first | refine J (At Z Z I9 rfl) ?_ | refine J (Au Z Z I9 Z Z Z) ?_ | refine J (Av Z Z (rfl) rfl I9 rfl) ?_
   refine A9 Z Z Z (J (BO (hs) Z Z) (A9 Z Z Z ?_))
   first | refine J (G9 Z Z) ?_ | refine J (GJ Z Z) ?_
   refine J (EG Z Z Z Z) (AI (F4 rfl (rfl) (An (AG (AJ ?_)))))
   first | refine J (At Z Z I9 rfl) ?_ | refine J (Au Z Z I9 Z Z Z) ?_ | refine J (Av Z Z (rfl) rfl I9 rfl) ?_
   refine J (BO (c1) Z Z) (G (DT 2 Rp Z Z Z Z) (G (CC Z Z Z Z Z Z Z sz31) (AI (AG (AJ ?_)))))
   first | refine J (At Z Z A2 rfl) ?_ | refine J (Au Z Z A2 Z Z Z) ?_ | refine J (Av Z Z (rfl) rfl A2 rfl) ?_
   refine J (BO (cu) Z Z) (AC Z Z ?_)
   first | refine J (BU Z Z Z) ?_ | refine J (BV Z Z Z) ?_
   first | refine J (BU Z Z Z) ?_ | refine J (BV Z Z Z) ?_
   refine AD Z Z (AD Z Z (AI (AG (AJ ?_))))
   first | refine J (At Z Z A2 rfl) ?_ | refine J (Au Z Z A2 Z Z Z) ?_ | refine J (Av Z Z (rfl) rfl A2 rfl) ?_
   refine J (BO (cl) Z Z) (AC Z Z ?_)
   first | refine J (BU Z Z Z) ?_ | refine J (BV Z Z Z) ?_
   first | refine J (BU Z Z Z) ?_ | refine J (BV Z Z Z) ?_
   refine AD Z Z (AD Z Z (AI (AG (AG (AJ (AC Z Z (AC Z Z ?_)))))))
   first | refine J (Ec Z Z Z) ?_ | refine J (Eb Z Z Z) ?_ | refine J (EV Z Z Z) ?_ | refine J (E8 Tryz.underlying34 Z Z Z) ?_ | refine J (Ea Tryz.underlying34 Z Z Z) ?_ | refine J (st_neqN Tryz.underlying34 Z Z) ?_ | refine J (E9 Tryz.underlying34 Z Z Z) ?_ | refine J (st_neqFN Tryz.underlying34 Z Z) ?_
   refine AC Z Z (HL 32 rfl ((decide_eq_false (by simp))) (A9 Z Z Z (AC Z Z (A9 Z Z Z ?_))))
   first | refine J (Co rfl Tryz.underlying33 rfl) ?_ | refine J (C1 Z Z Tryz.underlying33 rfl) ?_ | refine J (Cp rfl Tryz.underlying33 rfl) ?_ | refine J (Cn rfl Tryz.underlying33 rfl) ?_ | refine J (Ca rfl Tryz.underlying33 rfl) ?_ | refine J (Ck rfl Tryz.underlying33 rfl) ?_
   refine A9 Z Z Z (AC Z Z (A9 Z Z Z ?_))
   first | refine J (Co rfl Tryz.underlying33 rfl) ?_ | refine J (C1 Z Z Tryz.underlying33 rfl) ?_ | refine J (Cp rfl Tryz.underlying33 rfl) ?_ | refine J (Cn rfl Tryz.underlying33 rfl) ?_ | refine J (Ca rfl Tryz.underlying33 rfl) ?_ | refine J (Ck rfl Tryz.underlying33 rfl) ?_
   refine A9 Z Z Z ?_
   first | refine J (Ec Z Z Z) ?_ | refine J (Eb Z Z Z) ?_ | refine J (EV Z Z Z) ?_ | refine J (E8 Tryz.underlying3 Z Z Z) ?_ | refine J (Ea Tryz.underlying3 Z Z Z) ?_ | refine J (st_neqN Tryz.underlying3 Z Z) ?_ | refine J (E9 Tryz.underlying3 Z Z Z) ?_ | refine J (st_neqFN Tryz.underlying3 Z Z) ?_
   refine J (EG Z Z Z Z) (AI ?_);refine F4 rfl (rfl) (An (AG (AG (AJ (AD Z Z (AI (Aw (EN (α:=Nat) (fun k=>⟨52,[(4,(.d (.sl none []))),(6,(.d (.sl (some true) []))),(8,(.d (AF (k:Int))))],[]⟩) (fun k=>k=0) (fun k=>0) (0) (rfl) (BS hF [] Z Z ⟨rfl,rfl,rfl,trivial⟩) ?_))))))));intro k hk0;subst hk0;refine AG (AG (AJ (AC Z Z (AC Z Z ?_))))
   first | refine J (Co rfl Tryz.underlying33 rfl) ?_ | refine J (C1 Z Z Tryz.underlying33 rfl) ?_ | refine J (Cp rfl Tryz.underlying33 rfl) ?_ | refine J (Cn rfl Tryz.underlying33 rfl) ?_ | refine J (Ca rfl Tryz.underlying33 rfl) ?_ | refine J (Ck rfl Tryz.underlying33 rfl) ?_
   first | refine J (Cc Z Z Z) ?_ | refine J (Cb Z Z Z) ?_
   refine AI (F4 rfl (rfl) (Ct (AG (AJ (AD Z Z (AI (Af ?_)))))));exact ⟨_,[],[],Ae rfl,rfl,rfl,rfl,rfl⟩
 ·rw [decide_eq_false hf] at hs;refine B6 Tryz.func3 Z Z Tryz.ntmps3 Z Z Z fun F hF=>?_;refine AG (AJ (G (CV 1 Z Z Z Z Z Z Z) (AD Z Z (AI (AG (AG (AJ (J (BO (hk) Z Z) ?_))))))))
  first | refine J (G9 Z Z) ?_ | refine J (GJ Z Z) ?_
  refine AC Z Z (HL 11 rfl (rfl) (A9 Z Z Z ?_))
  first | refine J (At Z Z I9 rfl) ?_ | refine J (Au Z Z I9 Z Z Z) ?_ | refine J (Av Z Z (rfl) rfl I9 rfl) ?_
  refine A9 Z Z Z (J (BO (hs) Z Z) (A9 Z Z Z ?_))
  first | refine J (G9 Z Z) ?_ | refine J (GJ Z Z) ?_
  refine J (EG Z Z Z Z) (AI (EL rfl (rfl) (AG (AJ (J (BO (hk) Z Z) (AD Z Z (AI (Af ?_))))))));exact ⟨_,[],[],Ae rfl,rfl,rfl,rfl,rfl⟩
end Go.Proofs.YtnkkaeblokdifaaGreat
namespace Go.Proofs.YtnkkaeblokdifaaGreat
open Go.ChangeShapes Go.WideShapes Go.ChangeAt Go.RowKit
set_option maxRecDepth 100000 in
theorem systemUnion_lifted (os:Os) (started:os.Started) (H:Type) (enc:TypeId×Value ->H):
  ReturnsInHanded {} Tryz.checked os 3 .any (Rows.systemUnionSpec.pre6 enc Tryz.prog Tryz.f3 Rows.systemUnionRow.domain false) (Rows.systemUnionSpec.post enc Tryz.prog Tryz.f3 false true false false):=by
 refine returnsInHanded_of_change_sized (C:=Tryz.checked) Tryz.own started (by kernel_rfl) Tryz.func3
  (ChangeSpec.witness6 (enc:=enc) (C:=Tryz.checked) false ⟨#[], #[.agg #[.slice none 0 0,.slice none 0 0]],[]⟩ 8 (by kernel_rfl) (by kernel_rfl) (by kernel_rfl) (by kernel_rfl)) ?_
 intro W base args ds gs before hval0 hW _ hwt _;have hW':=hW;obtain ⟨p,q,hA0,hV,rfl,_,_⟩:=hW;have hlt:∀x∈p++q,x.block<W.heap.size:=fun x hx=>hW'.lt x hx;have hA:DataW.TrodAll enc Tryz.prog W 0 (fun _=>true) true Tryz.f3.params.toList args.toList ds p:=hA0;rw [Tryz.params3] at hA;obtain ⟨v0,d0,rfl,rfl,h0⟩:=trodAll_one hA;obtain ⟨rfl,rfl⟩:=trodVars_none hV;have hwz:∀n∈DataW.weightsEach Tryz.prog ([25]:List TypeId) ([d0]),n≤reachBytes:=fun n hn=>of_decide_eq_true (List.all_eq_true.1 hwt n (by rw [Tryz.params3];exact hn));have hval:∀(j:Nat) t v,Tryz.f3.params[j]?=some t ->(#[v0]:Array Value)[j]?=some v ->Value.okWide Tryz.prog W .any base t v:=hval0;rw [Tryz.params3] at hval;obtain ⟨n0,g0⟩:=h0;obtain ⟨cs0,rfl,_⟩:=okWide_struct Tryz.underlying25 (hval 0 25 v0 rfl rfl);obtain ⟨a0,q0,_,r0⟩:=(oPrb) _ _ _ g0 (fun x hx=>hlt x (by simp [hx])) (fun n hn=>hwz n (DataW.weights_mem_each (j:=0) (t:=25) rfl rfl n hn));refine (VQ (lawY1_p a0) (vs:=[.agg cs0]) rfl (fun i a v ha hv=>?_)).mono fun e W' ⟨he,hb⟩=>?_
 ·rcases i with _ | i
  ·simp at ha hv;subst ha hv;exact TI.argS rfl r0
  ·simp at ha
 subst he;exact ⟨_,rfl,X6 (tb:=4) Tryz.laidOut (by kernel_rfl) Z Z Tryz.underlying4 hW' ⟨rfl,rfl,rfl⟩ hb⟩
theorem systemUnion_holds:Rows.SystemUnionSaid:=
 OpenClaim.holds_of_wide 3 Tryz.f3 Z Z Z Z Z Z Z ⟨rfl,rfl,rfl,rfl,rfl⟩ Z Z Z Z Z (by kernel_rfl) Tryz.func3 (by kernel_rfl)
  (of_decide_eq_true (by kernel_rfl)) (by unfold Func.isWrapper;first | (rw [if_pos (by decide+kernel)];kernel_rfl) | (rw [if_neg (by decide+kernel)];exact ⟨rfl,rfl⟩))
  (fun os started H enc _=>systemUnion_lifted os started H enc)
#print axioms systemUnion_holds
end Go.Proofs.YtnkkaeblokdifaaGreat
