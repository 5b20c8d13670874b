/- Proved here: linkNil_holds, the given statement Rows.LinkNilSaid: the law girolaw27.LinkNil returns true and does not panic, at every input that the statement speaks of; no condition beyond the statement. -/
/- 'girolaw27.LinkNil': for every input the law returns true, and each argument reads behind the call as it read before. No condition. -/
import Derived.Test.YtlmedakidpaeeaaMg19
namespace Go.Proofs.Ytlmedakidpaeeaa
open Go.RowKit
set_option maxRecDepth 100000 in
theorem law8_p (o:OpL):As Try.prog 9 [.d (opD o)] (.raw (.bool true)):=by
 refine DR Try.func9 Z Z Try.ntmps9 Z Z Z fun F hF=>?_;refine AF (AI (U (C2 20 Z Z Z Z Z Z Z) (AE Z Z (AG (AF (AF (AI (J (H1 (known_p) Z Z) ?_))))))))
 first | refine J (KQ Z Z) ?_ | refine J (BN Z Z) ?_
 refine AG ?_;refine IZ rfl (rfl) (C9 (AF (AI (AE Z Z (AG (AF (AI (AB Z Z ?_))))))))
 first | refine J (CE rfl Ca Z Z Z) ?_ | refine J (CG rfl Ca Z Z Z) ?_ | refine J (CI rfl Ca Z Z Z) ?_ | refine J (CF rfl Ca Z Z Z) ?_ | refine J (CD rfl Ca Z Z Z) ?_
 first | refine J (A9 Z Z A4 rfl) ?_ | refine J (A7 Z Z Z A4 rfl) ?_ | refine J (A8 Z Z (rfl) rfl A4 rfl) ?_
 refine J (H1 (addN o.x) Z Z) ?_
 first | refine J (Dl Z Z Z) ?_ | refine J (Ds Z Z Z) ?_ | refine J (Dg Z Z Z) ?_ | refine J (Dm Try.underlying25 Z Z Z) ?_ | refine J (Dp Try.underlying25 Z Z Z) ?_ | refine J (Do Try.underlying25 Z Z) ?_ | refine J (Dh Try.underlying25 Z Z) ?_ | refine J (Dr Try.underlying25 Z Z) ?_ | refine J (Dn Try.underlying25 Z Z Z) ?_ | refine J (Dq Try.underlying25 Z Z) ?_
 refine AB Z Z (Hk 11 rfl (rfl) (AT Z Z Z (AB Z Z (AT Z Z Z ?_))))
 first | refine J (CE rfl Ca Z Z Z) ?_ | refine J (CG rfl Ca Z Z Z) ?_ | refine J (CI rfl Ca Z Z Z) ?_ | refine J (CF rfl Ca Z Z Z) ?_ | refine J (CD rfl Ca Z Z Z) ?_
 refine AT Z Z Z ?_
 first | refine J (A9 Z Z A4 rfl) ?_ | refine J (A7 Z Z Z A4 rfl) ?_ | refine J (A8 Z Z (rfl) rfl A4 rfl) ?_
 refine AT Z Z Z ?_
 first | refine J (CE rfl Cs Z Z Z) ?_ | refine J (CG rfl Cs Z Z Z) ?_ | refine J (CI rfl Cs Z Z Z) ?_ | refine J (CF rfl Cs Z Z Z) ?_ | refine J (CD rfl Cs Z Z Z) ?_
 refine AT Z Z Z ?_
 first | refine J (MZ Z Z BE rfl) ?_ | refine J (M8 Z Z BE Z Z Z) ?_ | refine J (M9 Z Z (rfl) rfl BE rfl) ?_
 refine AT Z Z Z (J (H1 (linkN o.x ⟨o.l.t,o.l.r⟩) Z Z) (AT Z Z Z ?_))
 first | refine J (Dl Z Z Z) ?_ | refine J (Ds Z Z Z) ?_ | refine J (Dg Z Z Z) ?_ | refine J (Dm Try.underlying25 Z Z Z) ?_ | refine J (Dp Try.underlying25 Z Z Z) ?_ | refine J (Do Try.underlying25 Z Z) ?_ | refine J (Dh Try.underlying25 Z Z) ?_ | refine J (Dr Try.underlying25 Z Z) ?_ | refine J (Dn Try.underlying25 Z Z Z) ?_ | refine J (Dq Try.underlying25 Z Z) ?_
 refine J (GC Z Z Z Z) (AB Z Z (Hk 20 rfl (rfl) (AT Z Z Z (AB Z Z (AT Z Z Z ?_)))))
 first | refine J (CE rfl Ca Z Z Z) ?_ | refine J (CG rfl Ca Z Z Z) ?_ | refine J (CI rfl Ca Z Z Z) ?_ | refine J (CF rfl Ca Z Z Z) ?_ | refine J (CD rfl Ca Z Z Z) ?_
 refine AT Z Z Z ?_
 first | refine J (A9 Z Z A4 rfl) ?_ | refine J (A7 Z Z Z A4 rfl) ?_ | refine J (A8 Z Z (rfl) rfl A4 rfl) ?_
 refine AT Z Z Z ?_
 first | refine J (CE rfl Cs Z Z Z) ?_ | refine J (CG rfl Cs Z Z Z) ?_ | refine J (CI rfl Cs Z Z Z) ?_ | refine J (CF rfl Cs Z Z Z) ?_ | refine J (CD rfl Cs Z Z Z) ?_
 refine AT Z Z Z ?_
 first | refine J (MZ Z Z BE rfl) ?_ | refine J (M8 Z Z BE Z Z Z) ?_ | refine J (M9 Z Z (rfl) rfl BE rfl) ?_
 refine AT Z Z Z (J (H1 (unlinkN o.x ⟨o.l.t,o.l.r⟩) Z Z) (AT Z Z Z ?_))
 first | refine J (Dl Z Z Z) ?_ | refine J (Ds Z Z Z) ?_ | refine J (Dg Z Z Z) ?_ | refine J (Dm Try.underlying25 Z Z Z) ?_ | refine J (Dp Try.underlying25 Z Z Z) ?_ | refine J (Do Try.underlying25 Z Z) ?_ | refine J (Dh Try.underlying25 Z Z) ?_ | refine J (Dr Try.underlying25 Z Z) ?_ | refine J (Dn Try.underlying25 Z Z Z) ?_ | refine J (Dq Try.underlying25 Z Z) ?_
 refine J (GC Z Z Z Z) (AB Z Z (Hk 29 rfl (rfl) (AT Z Z Z (AB Z Z (AT Z Z Z ?_)))))
 first | refine J (CE rfl Ca Z Z Z) ?_ | refine J (CG rfl Ca Z Z Z) ?_ | refine J (CI rfl Ca Z Z Z) ?_ | refine J (CF rfl Ca Z Z Z) ?_ | refine J (CD rfl Ca Z Z Z) ?_
 refine AT Z Z Z ?_
 first | refine J (A9 Z Z A4 rfl) ?_ | refine J (A7 Z Z Z A4 rfl) ?_ | refine J (A8 Z Z (rfl) rfl A4 rfl) ?_
 refine AT Z Z Z (J (H1 (removeN o.x) Z Z) (AT Z Z Z ?_))
 first | refine J (Dl Z Z Z) ?_ | refine J (Ds Z Z Z) ?_ | refine J (Dg Z Z Z) ?_ | refine J (Dm Try.underlying25 Z Z Z) ?_ | refine J (Dp Try.underlying25 Z Z Z) ?_ | refine J (Do Try.underlying25 Z Z) ?_ | refine J (Dh Try.underlying25 Z Z) ?_ | refine J (Dr Try.underlying25 Z Z) ?_ | refine J (Dn Try.underlying25 Z Z Z) ?_ | refine J (Dq Try.underlying25 Z Z) ?_
 refine J (GC Z Z Z Z) (AB Z Z (Hk 36 rfl (rfl) (AT Z Z Z (AB Z Z (AT Z Z Z ?_)))))
 first | refine J (CE rfl Ca Z Z Z) ?_ | refine J (CG rfl Ca Z Z Z) ?_ | refine J (CI rfl Ca Z Z Z) ?_ | refine J (CF rfl Ca Z Z Z) ?_ | refine J (CD rfl Ca Z Z Z) ?_
 refine AT Z Z Z ?_
 first | refine J (A9 Z Z A4 rfl) ?_ | refine J (A7 Z Z Z A4 rfl) ?_ | refine J (A8 Z Z (rfl) rfl A4 rfl) ?_
 refine AT Z Z Z (J (H1 (linksN o.x) Z Z) (AT Z Z Z ?_))
 first | refine J (H5 rfl Try.underlying62 rfl) ?_ | refine J (Du Z Z Try.underlying62 rfl) ?_ | refine J (HZ rfl Try.underlying62 rfl) ?_ | refine J (H4 rfl Try.underlying62 rfl) ?_ | refine J (HY rfl Try.underlying62 rfl) ?_ | refine J (G8 rfl Try.underlying62 rfl) ?_
 refine AT Z Z Z ?_
 first | refine J (Dl Z Z Z) ?_ | refine J (Ds Z Z Z) ?_ | refine J (Dg Z Z Z) ?_ | refine J (Dm Try.underlying3 Z Z Z) ?_ | refine J (Dp Try.underlying3 Z Z Z) ?_ | refine J (Do Try.underlying3 Z Z) ?_ | refine J (Dh Try.underlying3 Z Z) ?_ | refine J (Dr Try.underlying3 Z Z) ?_ | refine J (Dn Try.underlying3 Z Z Z) ?_ | refine J (Dq Try.underlying3 Z Z) ?_
 refine J (GC Z Z Z Z) (AB Z Z (Hk 44 rfl (rfl) (AT Z Z Z (AB Z Z (AT Z Z Z ?_)))))
 first | refine J (CE rfl Ca Z Z Z) ?_ | refine J (CG rfl Ca Z Z Z) ?_ | refine J (CI rfl Ca Z Z Z) ?_ | refine J (CF rfl Ca Z Z Z) ?_ | refine J (CD rfl Ca Z Z Z) ?_
 refine AT Z Z Z ?_
 first | refine J (A9 Z Z A4 rfl) ?_ | refine J (A7 Z Z Z A4 rfl) ?_ | refine J (A8 Z Z (rfl) rfl A4 rfl) ?_
 refine AT Z Z Z (J (H1 (hasN o.x) Z Z) (AT Z Z Z ?_))
 first | refine J (KQ Z Z) ?_ | refine J (BN Z Z) ?_
 refine J (GC Z Z Z Z) (AB Z Z (Hk 51 rfl (rfl) (AT Z Z Z (AB Z Z (AT Z Z Z (J (H1 (lenN) Z Z) (AT Z Z Z ?_)))))))
 first | refine J (Dl Z Z Z) ?_ | refine J (Ds Z Z Z) ?_ | refine J (Dg Z Z Z) ?_ | refine J (Dm Try.underlying3 Z Z Z) ?_ | refine J (Dp Try.underlying3 Z Z Z) ?_ | refine J (Do Try.underlying3 Z Z) ?_ | refine J (Dh Try.underlying3 Z Z) ?_ | refine J (Dr Try.underlying3 Z Z) ?_ | refine J (Dn Try.underlying3 Z Z Z) ?_ | refine J (Dq Try.underlying3 Z Z) ?_
 refine J (GC Z Z Z Z) (AB Z Z (Hk 56 rfl (rfl) (AT Z Z Z (AB Z Z (AT Z Z Z ?_)))))
 first | refine J (CE rfl Ca Z Z Z) ?_ | refine J (CG rfl Ca Z Z Z) ?_ | refine J (CI rfl Ca Z Z Z) ?_ | refine J (CF rfl Ca Z Z Z) ?_ | refine J (CD rfl Ca Z Z Z) ?_
 refine AT Z Z Z ?_
 first | refine J (A9 Z Z A4 rfl) ?_ | refine J (A7 Z Z Z A4 rfl) ?_ | refine J (A8 Z Z (rfl) rfl A4 rfl) ?_
 refine AT Z Z Z (J (H1 (groupN o.x) Z Z) (AT Z Z Z ?_))
 first | refine J (H5 rfl Try.underlying32 rfl) ?_ | refine J (Du Z Z Try.underlying32 rfl) ?_ | refine J (HZ rfl Try.underlying32 rfl) ?_ | refine J (H4 rfl Try.underlying32 rfl) ?_ | refine J (HY rfl Try.underlying32 rfl) ?_ | refine J (G8 rfl Try.underlying32 rfl) ?_
 refine AT Z Z Z ?_
 first | refine J (Dl Z Z Z) ?_ | refine J (Ds Z Z Z) ?_ | refine J (Dg Z Z Z) ?_ | refine J (Dm Try.underlying3 Z Z Z) ?_ | refine J (Dp Try.underlying3 Z Z Z) ?_ | refine J (Do Try.underlying3 Z Z) ?_ | refine J (Dh Try.underlying3 Z Z) ?_ | refine J (Dr Try.underlying3 Z Z) ?_ | refine J (Dn Try.underlying3 Z Z Z) ?_ | refine J (Dq Try.underlying3 Z Z) ?_
 refine J (GC Z Z Z Z) (AB Z Z (Hk 64 rfl (rfl) (AT Z Z Z (AB Z Z (AT Z Z Z ?_)))))
 first | refine J (CE rfl Ca Z Z Z) ?_ | refine J (CG rfl Ca Z Z Z) ?_ | refine J (CI rfl Ca Z Z Z) ?_ | refine J (CF rfl Ca Z Z Z) ?_ | refine J (CD rfl Ca Z Z Z) ?_
 refine AT Z Z Z ?_
 first | refine J (A9 Z Z A4 rfl) ?_ | refine J (A7 Z Z Z A4 rfl) ?_ | refine J (A8 Z Z (rfl) rfl A4 rfl) ?_
 refine AT Z Z Z (J (H1 (beforeN o.x) Z Z) (AT Z Z Z ?_))
 first | refine J (H5 rfl Try.underlying32 rfl) ?_ | refine J (Du Z Z Try.underlying32 rfl) ?_ | refine J (HZ rfl Try.underlying32 rfl) ?_ | refine J (H4 rfl Try.underlying32 rfl) ?_ | refine J (HY rfl Try.underlying32 rfl) ?_ | refine J (G8 rfl Try.underlying32 rfl) ?_
 refine AT Z Z Z ?_
 first | refine J (Dl Z Z Z) ?_ | refine J (Ds Z Z Z) ?_ | refine J (Dg Z Z Z) ?_ | refine J (Dm Try.underlying3 Z Z Z) ?_ | refine J (Dp Try.underlying3 Z Z Z) ?_ | refine J (Do Try.underlying3 Z Z) ?_ | refine J (Dh Try.underlying3 Z Z) ?_ | refine J (Dr Try.underlying3 Z Z) ?_ | refine J (Dn Try.underlying3 Z Z Z) ?_ | refine J (Dq Try.underlying3 Z Z) ?_
 refine J (GC Z Z Z Z) (AB Z Z (Hk 72 rfl (rfl) (AT Z Z Z (AB Z Z (AT Z Z Z ?_)))))
 first | refine J (CE rfl Ca Z Z Z) ?_ | refine J (CG rfl Ca Z Z Z) ?_ | refine J (CI rfl Ca Z Z Z) ?_ | refine J (CF rfl Ca Z Z Z) ?_ | refine J (CD rfl Ca Z Z Z) ?_
 refine AT Z Z Z ?_
 first | refine J (A9 Z Z A4 rfl) ?_ | refine J (A7 Z Z Z A4 rfl) ?_ | refine J (A8 Z Z (rfl) rfl A4 rfl) ?_
 refine AT Z Z Z (J (H1 (behindN o.x) Z Z) (AT Z Z Z ?_))
 first | refine J (H5 rfl Try.underlying32 rfl) ?_ | refine J (Du Z Z Try.underlying32 rfl) ?_ | refine J (HZ rfl Try.underlying32 rfl) ?_ | refine J (H4 rfl Try.underlying32 rfl) ?_ | refine J (HY rfl Try.underlying32 rfl) ?_ | refine J (G8 rfl Try.underlying32 rfl) ?_
 refine AT Z Z Z ?_
 first | refine J (Dl Z Z Z) ?_ | refine J (Ds Z Z Z) ?_ | refine J (Dg Z Z Z) ?_ | refine J (Dm Try.underlying3 Z Z Z) ?_ | refine J (Dp Try.underlying3 Z Z Z) ?_ | refine J (Do Try.underlying3 Z Z) ?_ | refine J (Dh Try.underlying3 Z Z) ?_ | refine J (Dr Try.underlying3 Z Z) ?_ | refine J (Dn Try.underlying3 Z Z Z) ?_ | refine J (Dq Try.underlying3 Z Z) ?_
 refine J (GC Z Z Z Z) (AB Z Z (Hk 80 rfl (rfl) (AT Z Z Z (AB Z Z (AT Z Z Z (J (H1 (groupsN) Z Z) (AT Z Z Z ?_)))))))
 first | refine J (H5 rfl Try.underlying47 rfl) ?_ | refine J (Du Z Z Try.underlying47 rfl) ?_ | refine J (HZ rfl Try.underlying47 rfl) ?_ | refine J (H4 rfl Try.underlying47 rfl) ?_ | refine J (HY rfl Try.underlying47 rfl) ?_ | refine J (G8 rfl Try.underlying47 rfl) ?_
 refine AT Z Z Z ?_
 first | refine J (Dl Z Z Z) ?_ | refine J (Ds Z Z Z) ?_ | refine J (Dg Z Z Z) ?_ | refine J (Dm Try.underlying3 Z Z Z) ?_ | refine J (Dp Try.underlying3 Z Z Z) ?_ | refine J (Do Try.underlying3 Z Z) ?_ | refine J (Dh Try.underlying3 Z Z) ?_ | refine J (Dr Try.underlying3 Z Z) ?_ | refine J (Dn Try.underlying3 Z Z Z) ?_ | refine J (Dq Try.underlying3 Z Z) ?_
 refine J (GC Z Z Z Z) (AB Z Z (Hk 86 rfl (rfl) (AT Z Z Z ?_)));refine AB Z Z (AT Z Z Z (J (H1 (cloneN) Z Z) (AT Z Z Z (J (Dh Try.underlying23 Z Z) (J (GC Z Z Z Z) (AB Z Z (Hk 91 rfl (rfl) (AT Z Z Z ?_))))))));refine AB Z Z (AT Z Z Z (J (H1 (OD none) Z Z) (J (GC Z Z Z Z) (AB Z Z (Hk 95 rfl (rfl) (AT Z Z Z (AB Z Z (AT Z Z Z ?_))))))));refine BH (L1 Nf rfl [40] ⟨rfl,trivial⟩ Z Z Z Z (fun r H' ⟨b,M,e1,e2,_⟩=>by subst e1 e2;exact ⟨rfl,rfl,rfl⟩) rfl) rfl ?_;rintro _ ⟨r,H',⟨b,M,e1,e2,h0⟩,rfl⟩;subst e1 e2;refine AT Z Z Z (J (H1 (OD (some ⟨b,0,none⟩)) Z Z) (AT Z Z Z ?_))
 first | refine J (KQ Z Z) ?_ | refine J (BN Z Z) ?_
 refine J (GC Z Z Z Z) (AB Z Z (N2 [20] hF Z Z (Hk 101 rfl (rfl) (N2 [20] hF Z Z (AT Z Z Z ?_)))));refine BH (L1 Nf rfl [40] ⟨rfl,trivial⟩ Z Z Z Z (fun r H' ⟨b,M,e1,e2,_⟩=>by subst e1 e2;exact ⟨rfl,rfl,rfl⟩) rfl) rfl ?_;rintro _ ⟨r,H',⟨b2,M2,e1,e2,h2⟩,rfl⟩;subst e1 e2;refine AT Z Z Z (AB Z Z (AT Z Z Z (J (H1 (equalN2 ⟨b2,0,none⟩) Z Z) (AT Z Z Z ?_))))
 first | refine J (KQ Z Z) ?_ | refine J (BN Z Z) ?_
 refine J (GC Z Z Z Z) (AE Z Z (AG (B3 ?_)));exact ⟨_,[],[],BO rfl,rfl,rfl,by simp,rfl⟩
end Go.Proofs.Ytlmedakidpaeeaa
namespace Go.Proofs.Ytlmedakidpaeeaa
open Go.ChangeShapes Go.WideShapes Go.ChangeAt Go.RowKit
set_option maxRecDepth 100000 in
theorem linkNil_lifted (os:Os) (started:os.Started) (H:Type) (enc:TypeId×Value ->H):
  ReturnsInHanded {} Try.checked os 9 .any (Rows.linkNilSpec.pre6 enc Try.prog Try.f9 Rows.linkNilRow.domain false) (Rows.linkNilSpec.post enc Try.prog Try.f9 false true false false):=by
 refine returnsInHanded_of_change_sized (C:=Try.checked) Try.own started (by kernel_rfl) Try.func9
  (ChangeSpec.witness6 (enc:=enc) (C:=Try.checked) false ⟨#[], #[.agg #[.int .i64 0,.string ⟨#[]⟩,.int .i64 0,.string ⟨#[]⟩]],[]⟩ 8 (by kernel_rfl) (by kernel_rfl) (by kernel_rfl) (by kernel_rfl)) ?_
 intro W base args ds gs before hval0 hW _ hwt _;have hW':=hW;obtain ⟨p,q,hA0,hV,rfl,_,_⟩:=hW;have hlt:∀x∈p++q,x.block<W.heap.size:=fun x hx=>hW'.lt x hx;have hA:DataW.TrodAll enc Try.prog W 0 (fun _=>true) true Try.f9.params.toList args.toList ds p:=hA0;rw [Try.params9] at hA;obtain ⟨v0,d0,rfl,rfl,h0⟩:=trodAll_one hA;obtain ⟨rfl,rfl⟩:=trodVars_none hV;have hwz:∀n∈DataW.weightsEach Try.prog ([41]:List TypeId) ([d0]),n≤reachBytes:=fun n hn=>of_decide_eq_true (List.all_eq_true.1 hwt n (by rw [Try.params9];exact hn));have hval:∀(j:Nat) t v,Try.f9.params[j]?=some t ->(#[v0]:Array Value)[j]?=some v ->Value.okWide Try.prog W .any base t v:=hval0;rw [Try.params9] at hval;obtain ⟨n0,g0⟩:=h0;obtain ⟨cs0,rfl,_⟩:=okWide_struct Try.underlying41 (hval 0 41 v0 rfl rfl);obtain ⟨a0,q0,_,r0⟩:=(oOp) _ _ _ g0 (fun x hx=>hlt x (by simp [hx])) (fun n hn=>hwz n (DataW.weights_mem_each (j:=0) (t:=41) rfl rfl n hn));refine (ML (law8_p a0) (vs:=[.agg cs0]) rfl (fun i a v ha hv=>?_)).mono fun e W' ⟨he,hb⟩=>?_
 ·rcases i with _ | i
  ·simp at ha hv;subst ha hv;exact Kz.argS rfl r0
  ·simp at ha
 subst he;exact ⟨_,rfl,Np (tb:=4) Try.laidOut (by kernel_rfl) Z Z Try.underlying4 hW' ⟨rfl,rfl,rfl⟩ hb⟩
theorem linkNil_holds:Rows.LinkNilSaid:=
 OpenClaim.holds_of_wide 9 Try.f9 Z Z Z Z Z Z Z ⟨rfl,rfl,rfl,rfl,rfl⟩ Z Z Z Z Z (by kernel_rfl) Try.func9 (by kernel_rfl)
  (of_decide_eq_true (by kernel_rfl)) (by unfold Func.isWrapper;first | (rw [if_pos (by decide+kernel)];kernel_rfl) | (rw [if_neg (by decide+kernel)];exact ⟨rfl,rfl⟩))
  (fun os started H enc _=>linkNil_lifted os started H enc)
#print axioms linkNil_holds
end Go.Proofs.Ytlmedakidpaeeaa
