/- Proved here: systemOnce_holds, the given statement Rows.SystemOnceSaid: the law girotop.SystemOnce returns true and does not panic, at every input that the statement speaks of; no condition beyond the statement. -/
/- 'girotop.SystemOnce': for every input the law returns true, and each argument reads behind the call as it read before. No condition. -/
import Derived.Test.YtnkkaeblokdifaaGreatMg25
namespace Go.Proofs.YtnkkaeblokdifaaGreat
open Go.RowKit
set_option maxRecDepth 100000 in
set_option maxHeartbeats 1000000 in
theorem lawY2_p (p:Prb):AU Tryz.prog 5 [.d (CI p)] (.raw (.bool true)):=by
 have hk:=YM;have hs:=small_p p
 by_cases hf:Sml p
 ·rw [decide_eq_true hf] at hs;have g1:=hf.1;have g2:=hf.2.1;have g3:=hf.2.2;have c1:=own_p p hf;have hw:=few_sml hf
  by_cases hp:Ak p=0
  ·have cl:=TO p hw hp;have hU:=Vr hp hw;have hmax:∀C,Uv p C ->∀y∈C,y∈largeS p:=fun C hC=>Vq hp hw hC;have hcho:=choE_ok hp hU.n hU.i;have h12:=XD hcho
   have hUl:(largeS p).length≤12:=by
    have:=sub_len hU.n (S0 (Ia hp).2.1) hU.i;rw [List.length_map] at this;omega
   have cse:=XB p (largeS p) (sml_B hf) (by omega) (by omega);have hqs:=XC hf (largeS p)
   by_cases he:DB p (largeS p)=0
   ·have cc:AU Tryz.prog 16 [.d (CI (setlP p (largeS p)))] (.tup [AG ((allX (smlOf (setlP p (largeS p)))).length:Nat),AG (1:Nat),AG 0]):=by
     have hq:=Mb hp he;have h:=SB (setlP p (largeS p)) (sml_B hqs) hq (by have:=hqs.1;omega) (by have:=hqs.2.1;omega);rw [one_fea hq (by have:=hqs.1;omega) fun S hS=>XJ hp (by omega) hU hmax he hS] at h;exact h
    rw [he] at cse;refine BY Tryz.func5 Z Z Tryz.ntmps5 Z Z Z fun F hF=>?_;refine AF (AJ (U (CJ 1 Z Z Z Z Z Z Z) (AD Z Z (AH (AF (AF (AJ (J (BF (hk) Z Z) ?_))))))))
    first | refine J (F2 Z Z) ?_ | refine J (FT Z Z) ?_
    refine AC Z Z (JC 13 rfl (rfl) (Ah Z Z Z ?_))
    first | refine J (An Z Z Fh rfl) ?_ | refine J (Ao Z Z Fh Z Z Z) ?_ | refine J (Ap Z Z (rfl) rfl Fh rfl) ?_
    refine Ah Z Z Z (J (BF (hs) Z Z) (Ah Z Z Z ?_))
    first | refine J (F2 Z Z) ?_ | refine J (FT Z Z) ?_
    refine J (Ei Z Z Z Z) (AH (Ey rfl (rfl) (Am (AF (AJ ?_)))))
    first | refine J (An Z Z Fh rfl) ?_ | refine J (Ao Z Z Fh Z Z Z) ?_ | refine J (Ap Z Z (rfl) rfl Fh rfl) ?_
    refine J (BF (c1) Z Z) (U (Cm 2 HS Z Z Z Z) (U (Bj Z Z Z Z Z Z Z M0) (AH (AF (AJ ?_)))))
    first | refine J (An Z Z AW rfl) ?_ | refine J (Ao Z Z AW Z Z Z) ?_ | refine J (Ap Z Z (rfl) rfl AW rfl) ?_
    refine J (BF (cl) Z Z) (AC Z Z ?_)
    first | refine J (BT Z Z Z) ?_ | refine J (BS Z Z Z) ?_
    first | refine J (BT Z Z Z) ?_ | refine J (BS Z Z Z) ?_
    refine AD Z Z (AD Z Z (AH (AF (AF (AJ (AC Z Z ?_))))))
    first | refine J (E9 Z Z Z) ?_ | refine J (Ed Z Z Z) ?_ | refine J (EU Z Z Z) ?_ | refine J (Ea Tryz.underlying34 Z Z Z) ?_ | refine J (Ec Tryz.underlying34 Z Z Z) ?_ | refine J (st_neqN Tryz.underlying34 Z Z) ?_ | refine J (Eb Tryz.underlying34 Z Z Z) ?_ | refine J (st_neqFN Tryz.underlying34 Z Z) ?_
    refine AH (Ey rfl (rfl) (Am (AF (AJ ?_))))
    first | refine J (An Z Z AW rfl) ?_ | refine J (Ao Z Z AW Z Z Z) ?_ | refine J (Ap Z Z (rfl) rfl AW rfl) ?_
    refine AC Z Z (J (BF (cse) Z Z) (AC Z Z ?_))
    first | refine J (BT Z Z Z) ?_ | refine J (BS Z Z Z) ?_
    first | refine J (BT Z Z Z) ?_ | refine J (BS Z Z Z) ?_
    refine U (Cm 3 HS Z Z Z Z) (U (Bj Z Z Z Z Z Z Z M0) (AD Z Z (AH (AF (AF (AJ (AC Z Z ?_)))))))
    first | refine J (E9 Z Z Z) ?_ | refine J (Ed Z Z Z) ?_ | refine J (EU Z Z Z) ?_ | refine J (Ea Tryz.underlying34 Z Z Z) ?_ | refine J (Ec Tryz.underlying34 Z Z Z) ?_ | refine J (st_neqN Tryz.underlying34 Z Z) ?_ | refine J (Eb Tryz.underlying34 Z Z Z) ?_ | refine J (st_neqFN Tryz.underlying34 Z Z) ?_
    refine AH (Ey rfl (rfl) (Am (AF (AJ ?_))))
    first | refine J (An Z Z AW rfl) ?_ | refine J (Ao Z Z AW Z Z Z) ?_ | refine J (Ap Z Z (rfl) rfl AW rfl) ?_
    refine J (BF (cc) Z Z) (AC Z Z ?_)
    first | refine J (BT Z Z Z) ?_ | refine J (BS Z Z Z) ?_
    first | refine J (BT Z Z Z) ?_ | refine J (BS Z Z Z) ?_
    first | refine J (BT Z Z Z) ?_ | refine J (BS Z Z Z) ?_
    refine AD Z Z (AD Z Z (AD Z Z (AH (AF (AJ (AC Z Z ?_))))))
    first | refine J (EP Z Z Z) ?_ | refine J (EW Z Z Z) ?_ | refine J (EA Z Z Z) ?_ | refine J (EQ Tryz.underlying34 Z Z Z) ?_ | refine J (ET Tryz.underlying34 Z Z Z) ?_ | refine J (ES Tryz.underlying34 Z Z) ?_ | refine J (ER Tryz.underlying34 Z Z Z) ?_ | refine J (EV Tryz.underlying34 Z Z) ?_
    refine AC Z Z (MS 49 rfl (rfl) (Ah Z Z Z (AC Z Z (Ah Z Z Z ?_))))
    first | refine J (EP Z Z Z) ?_ | refine J (EW Z Z Z) ?_ | refine J (EA Z Z Z) ?_ | refine J (EQ Tryz.underlying3 Z Z Z) ?_ | refine J (ET Tryz.underlying3 Z Z Z) ?_ | refine J (ES Tryz.underlying3 Z Z) ?_ | refine J (ER Tryz.underlying3 Z Z Z) ?_ | refine J (EV Tryz.underlying3 Z Z) ?_
    refine J (EB Z Z Z Z) (AD Z Z (AH (Af ?_)));exact ⟨_,[],[],Ae rfl,rfl,rfl,rfl,rfl⟩
   ·have he2:DB p (largeS p)=12:=h12.resolve_left he;rw [he2] at cse;refine BY Tryz.func5 Z Z Tryz.ntmps5 Z Z Z fun F hF=>?_;refine AF (AJ (U (CJ 1 Z Z Z Z Z Z Z) (AD Z Z (AH (AF (AF (AJ (J (BF (hk) Z Z) ?_))))))))
    first | refine J (F2 Z Z) ?_ | refine J (FT Z Z) ?_
    refine AC Z Z (JC 13 rfl (rfl) (Ah Z Z Z ?_))
    first | refine J (An Z Z Fh rfl) ?_ | refine J (Ao Z Z Fh Z Z Z) ?_ | refine J (Ap Z Z (rfl) rfl Fh rfl) ?_
    refine Ah Z Z Z (J (BF (hs) Z Z) (Ah Z Z Z ?_))
    first | refine J (F2 Z Z) ?_ | refine J (FT Z Z) ?_
    refine J (Ei Z Z Z Z) (AH (Ey rfl (rfl) (Am (AF (AJ ?_)))))
    first | refine J (An Z Z Fh rfl) ?_ | refine J (Ao Z Z Fh Z Z Z) ?_ | refine J (Ap Z Z (rfl) rfl Fh rfl) ?_
    refine J (BF (c1) Z Z) (U (Cm 2 HS Z Z Z Z) (U (Bj Z Z Z Z Z Z Z M0) (AH (AF (AJ ?_)))))
    first | refine J (An Z Z AW rfl) ?_ | refine J (Ao Z Z AW Z Z Z) ?_ | refine J (Ap Z Z (rfl) rfl AW rfl) ?_
    refine J (BF (cl) Z Z) (AC Z Z ?_)
    first | refine J (BT Z Z Z) ?_ | refine J (BS Z Z Z) ?_
    first | refine J (BT Z Z Z) ?_ | refine J (BS Z Z Z) ?_
    refine AD Z Z (AD Z Z (AH (AF (AF (AJ (AC Z Z ?_))))))
    first | refine J (E9 Z Z Z) ?_ | refine J (Ed Z Z Z) ?_ | refine J (EU Z Z Z) ?_ | refine J (Ea Tryz.underlying34 Z Z Z) ?_ | refine J (Ec Tryz.underlying34 Z Z Z) ?_ | refine J (st_neqN Tryz.underlying34 Z Z) ?_ | refine J (Eb Tryz.underlying34 Z Z Z) ?_ | refine J (st_neqFN Tryz.underlying34 Z Z) ?_
    refine AH (Ey rfl (rfl) (Am (AF (AJ ?_))))
    first | refine J (An Z Z AW rfl) ?_ | refine J (Ao Z Z AW Z Z Z) ?_ | refine J (Ap Z Z (rfl) rfl AW rfl) ?_
    refine AC Z Z (J (BF (cse) Z Z) (AC Z Z ?_))
    first | refine J (BT Z Z Z) ?_ | refine J (BS Z Z Z) ?_
    first | refine J (BT Z Z Z) ?_ | refine J (BS Z Z Z) ?_
    refine U (Cm 3 HS Z Z Z Z) (U (Bj Z Z Z Z Z Z Z M0) (AD Z Z (AH (AF (AF (AJ (AC Z Z ?_)))))))
    first | refine J (E9 Z Z Z) ?_ | refine J (Ed Z Z Z) ?_ | refine J (EU Z Z Z) ?_ | refine J (Ea Tryz.underlying34 Z Z Z) ?_ | refine J (Ec Tryz.underlying34 Z Z Z) ?_ | refine J (st_neqN Tryz.underlying34 Z Z) ?_ | refine J (Eb Tryz.underlying34 Z Z Z) ?_ | refine J (st_neqFN Tryz.underlying34 Z Z) ?_
    refine AH (Dg rfl (rfl) (AF (AJ (AC Z Z ?_))))
    first | refine J (EP Z Z Z) ?_ | refine J (EW Z Z Z) ?_ | refine J (EA Z Z Z) ?_ | refine J (EQ Tryz.underlying34 Z Z Z) ?_ | refine J (ET Tryz.underlying34 Z Z Z) ?_ | refine J (ES Tryz.underlying34 Z Z) ?_ | refine J (ER Tryz.underlying34 Z Z Z) ?_ | refine J (EV Tryz.underlying34 Z Z) ?_
    refine AD Z Z (AH (Af ?_));exact ⟨_,[],[],Ae rfl,rfl,rfl,rfl,rfl⟩
  ·have cl:=R7 p hw hp;refine BY Tryz.func5 Z Z Tryz.ntmps5 Z Z Z fun F hF=>?_;refine AF (AJ (U (CJ 1 Z Z Z Z Z Z Z) (AD Z Z (AH (AF (AF (AJ (J (BF (hk) Z Z) ?_))))))))
   first | refine J (F2 Z Z) ?_ | refine J (FT Z Z) ?_
   refine AC Z Z (JC 13 rfl (rfl) (Ah Z Z Z ?_))
   first | refine J (An Z Z Fh rfl) ?_ | refine J (Ao Z Z Fh Z Z Z) ?_ | refine J (Ap Z Z (rfl) rfl Fh rfl) ?_
   refine Ah Z Z Z (J (BF (hs) Z Z) (Ah Z Z Z ?_))
   first | refine J (F2 Z Z) ?_ | refine J (FT Z Z) ?_
   refine J (Ei Z Z Z Z) (AH (Ey rfl (rfl) (Am (AF (AJ ?_)))))
   first | refine J (An Z Z Fh rfl) ?_ | refine J (Ao Z Z Fh Z Z Z) ?_ | refine J (Ap Z Z (rfl) rfl Fh rfl) ?_
   refine J (BF (c1) Z Z) (U (Cm 2 HS Z Z Z Z) (U (Bj Z Z Z Z Z Z Z M0) (AH (AF (AJ ?_)))))
   first | refine J (An Z Z AW rfl) ?_ | refine J (Ao Z Z AW Z Z Z) ?_ | refine J (Ap Z Z (rfl) rfl AW rfl) ?_
   refine J (BF (cl) Z Z) (AC Z Z ?_)
   first | refine J (BT Z Z Z) ?_ | refine J (BS Z Z Z) ?_
   first | refine J (BT Z Z Z) ?_ | refine J (BS Z Z Z) ?_
   refine AD Z Z (AD Z Z (AH (AF (AF (AJ (AC Z Z ?_))))))
   first | refine J (E9 Z Z Z) ?_ | refine J (Ed Z Z Z) ?_ | refine J (EU Z Z Z) ?_ | refine J (Ea Tryz.underlying34 Z Z Z) ?_ | refine J (Ec Tryz.underlying34 Z Z Z) ?_ | refine J (st_neqN Tryz.underlying34 Z Z) ?_ | refine J (Eb Tryz.underlying34 Z Z Z) ?_ | refine J (st_neqFN Tryz.underlying34 Z Z) ?_
   refine AH (Dg rfl ((decide_eq_true hp)) (AF (AJ (AC Z Z ?_))))
   first | refine J (Cc rfl Tryz.underlying33 rfl) ?_ | refine J (C8 Z Z Tryz.underlying33 rfl) ?_ | refine J (Cd rfl Tryz.underlying33 rfl) ?_ | refine J (Cb rfl Tryz.underlying33 rfl) ?_ | refine J (CW rfl Tryz.underlying33 rfl) ?_ | refine J (C9 rfl Tryz.underlying33 rfl) ?_
   first | refine J (EP Z Z Z) ?_ | refine J (EW Z Z Z) ?_ | refine J (EA Z Z Z) ?_ | refine J (EQ Tryz.underlying3 Z Z Z) ?_ | refine J (ET Tryz.underlying3 Z Z Z) ?_ | refine J (ES Tryz.underlying3 Z Z) ?_ | refine J (ER Tryz.underlying3 Z Z Z) ?_ | refine J (EV Tryz.underlying3 Z Z) ?_
   refine AD Z Z (AH (Af ?_));exact ⟨_,[],[],Ae rfl,rfl,rfl,rfl,rfl⟩
 ·rw [decide_eq_false hf] at hs;refine BY Tryz.func5 Z Z Tryz.ntmps5 Z Z Z fun F hF=>?_;refine AF (AJ (U (CJ 1 Z Z Z Z Z Z Z) (AD Z Z (AH (AF (AF (AJ (J (BF (hk) Z Z) ?_))))))))
  first | refine J (F2 Z Z) ?_ | refine J (FT Z Z) ?_
  refine AC Z Z (JC 13 rfl (rfl) (Ah Z Z Z ?_))
  first | refine J (An Z Z Fh rfl) ?_ | refine J (Ao Z Z Fh Z Z Z) ?_ | refine J (Ap Z Z (rfl) rfl Fh rfl) ?_
  refine Ah Z Z Z (J (BF (hs) Z Z) (Ah Z Z Z ?_))
  first | refine J (F2 Z Z) ?_ | refine J (FT Z Z) ?_
  refine J (Ei Z Z Z Z) (AH (Dg rfl (rfl) (AF (AJ (J (BF (hk) Z Z) (AD Z Z (AH (Af ?_))))))));exact ⟨_,[],[],Ae rfl,rfl,rfl,rfl,rfl⟩
end Go.Proofs.YtnkkaeblokdifaaGreat
namespace Go.Proofs.YtnkkaeblokdifaaGreat
open Go.ChangeShapes Go.WideShapes Go.ChangeAt Go.RowKit
set_option maxRecDepth 100000 in
theorem systemOnce_lifted (os:Os) (started:os.Started) (H:Type) (enc:TypeId×Value ->H):
  ReturnsInHanded {} Tryz.checked os 5 .any (Rows.systemOnceSpec.pre6 enc Tryz.prog Tryz.f5 Rows.systemOnceRow.domain false) (Rows.systemOnceSpec.post enc Tryz.prog Tryz.f5 false true false false):=by
 refine returnsInHanded_of_change_sized (C:=Tryz.checked) Tryz.own started (by kernel_rfl) Tryz.func5
  (ChangeSpec.witness6 (enc:=enc) (C:=Tryz.checked) false ⟨#[], #[.agg #[.slice none 0 0,.slice none 0 0]],[]⟩ 8 (by kernel_rfl) (by kernel_rfl) (by kernel_rfl) (by kernel_rfl)) ?_
 intro W base args ds gs before hval0 hW _ hwt _;have hW':=hW;obtain ⟨p,q,hA0,hV,rfl,_,_⟩:=hW;have hlt:∀x∈p++q,x.block<W.heap.size:=fun x hx=>hW'.lt x hx;have hA:DataW.TrodAll enc Tryz.prog W 0 (fun _=>true) true Tryz.f5.params.toList args.toList ds p:=hA0;rw [Tryz.params5] at hA;obtain ⟨v0,d0,rfl,rfl,h0⟩:=trodAll_one hA;obtain ⟨rfl,rfl⟩:=trodVars_none hV;have hwz:∀n∈DataW.weightsEach Tryz.prog ([25]:List TypeId) ([d0]),n≤reachBytes:=fun n hn=>of_decide_eq_true (List.all_eq_true.1 hwt n (by rw [Tryz.params5];exact hn));have hval:∀(j:Nat) t v,Tryz.f5.params[j]?=some t ->(#[v0]:Array Value)[j]?=some v ->Value.okWide Tryz.prog W .any base t v:=hval0;rw [Tryz.params5] at hval;obtain ⟨n0,g0⟩:=h0;obtain ⟨cs0,rfl,_⟩:=okWide_struct Tryz.underlying25 (hval 0 25 v0 rfl rfl);obtain ⟨a0,q0,_,r0⟩:=(oPrb) _ _ _ g0 (fun x hx=>hlt x (by simp [hx])) (fun n hn=>hwz n (DataW.weights_mem_each (j:=0) (t:=25) rfl rfl n hn));refine (Vo (lawY2_p a0) (vs:=[.agg cs0]) rfl (fun i a v ha hv=>?_)).mono fun e W' ⟨he,hb⟩=>?_
 ·rcases i with _ | i
  ·simp at ha hv;subst ha hv;exact Tk.argS rfl r0
  ·simp at ha
 subst he;exact ⟨_,rfl,YL (tb:=4) Tryz.laidOut (by kernel_rfl) Z Z Tryz.underlying4 hW' ⟨rfl,rfl,rfl⟩ hb⟩
theorem systemOnce_holds:Rows.SystemOnceSaid:=
 OpenClaim.holds_of_wide 5 Tryz.f5 Z Z Z Z Z Z Z ⟨rfl,rfl,rfl,rfl,rfl⟩ Z Z Z Z Z (by kernel_rfl) Tryz.func5 (by kernel_rfl)
  (of_decide_eq_true (by kernel_rfl)) (by unfold Func.isWrapper;first | (rw [if_pos (by decide+kernel)];kernel_rfl) | (rw [if_neg (by decide+kernel)];exact ⟨rfl,rfl⟩))
  (fun os started H enc _=>systemOnce_lifted os started H enc)
#print axioms systemOnce_holds
end Go.Proofs.YtnkkaeblokdifaaGreat
