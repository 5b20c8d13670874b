/- Proved here: gridlockParts_holds, the given statement Rows.GridlockPartsSaid: the law girolaw32.GridlockParts returns true and does not panic, at every input that the statement speaks of; no condition beyond the statement. -/
/- 'girolaw32.GridlockParts': for every input the law returns true, and each argument reads behind the call as it read before. No condition. -/
import Derived.Test.YteifpcnphnhaoaaGreatMg21
open Go.Proofs.Tryz
namespace Go.Proofs.YteifpcnphnhaoaaGreat
open Go.RowKit Go.Shelf
theorem bx{p:gB}(h:rp p)(S:List Int):(gg p S).ro.length<=24/\(gg p S).it.length<=12/\∀i∈(gg p S).it,i.po.length<=12/\i.pa.length<=12/\i.af.length<=12:=by
 obtain ⟨g,f,c⟩:=h;refine ⟨gY (iI _ _) f,by unfold gg;show (List.map _ _).length<=12;rw[χ];exact gY (iI _ _) g,λi b=>?_⟩;obtain ⟨j,a,rfl⟩:=Θ.1 b;have:=c j (gk.1 a).1;exact ⟨this.1,this.2.1,gY (WK S j.af) this.2.2⟩
set_option maxRecDepth 100000 in
set_option maxHeartbeats 4000000 in
theorem lr(p:gB)(S:List Int):AL prog 8 [.d (Bf p),.d (Gl S)] (.raw (.bool true)):=by
 have o:=Zb;have l:=kx p
 by_cases r:rp p
 .rw[gi r] at l;have c:=mR r;have M:=r.1;have L:=r.2.1;have s:=sz p r;have y:=TW p (by omega) (by omega) (λi v=>by have:=c.x i v;omega)
  by_cases A:S.length<=20
  .have z:=ky p S (by omega) (by omega)
   by_cases j:CZ p S=0
   .have g:=LX j;have f:K0 (p.it.map AJ.id) S=0:=by have h:=j;unfold CZ at h;rwa [κ (by omega)] at h
    have D:=aB j;rw[g] at y;rw[f] at z;have b:=fA p S c (by omega) j g D;have a:=Vq p S c (by omega) j g D;have u:=ZE p S g c (by omega);have t:=Vt p S g c (by omega);have K:=eR p S;have C:=qB _ (sL (fC (gJ p) (DY p S)) (by omega));obtain ⟨I,H,B⟩:=bx r S;have w:=rG (gg p S) (by omega) (by omega) λi v=>by have:=B i v;omega
    have k:=pO (gg p S) (gg p S) ⟨by omega,by omega,λi v=>by have:=B i v;omega⟩;rw[gi ⟨Z,Z⟩] at k
    obtain ⟨T,E⟩:∃x,ga (gJ p) (DY p S)=x:=⟨_,Z⟩
    rw[E] at b u C
    obtain ⟨Q,G⟩:∃x,gg p S=x:=⟨_,Z⟩
    rw[G] at a t w k;refine Av func8 Z Z ntmps8 Z Z Z λF c=>(AC (AE (V (Bh 1 Z Z Z Z Z Z Z) (AB Z Z ?_))));refine AD (AC (AC (AE (J (Au (o) Z Z) (J (NE Z Z) (ek Z Z (Ds 12 Z (Z) (AQ Z Z Z ?_))))))));refine J (Ay Z Z EE Z Z Z) (AQ Z Z Z (J (Au (l) Z Z) (AQ Z Z Z (J (NE Z Z) (J (Be Z Z Z Z) (ek Z Z (Ds 17 Z (Z) (AQ Z Z Z ?_))))))));refine ek Z Z (AQ Z Z Z (J (BS Z E0 Z) (AQ Z Z Z (J (HV Z Z Z) (J (Be Z Z Z Z) (AD (Cr Z (gp (by omega)) (AW ?_))))))));refine AC (AE (J (Ay Z Z EE Z Z Z) (J (Au (s) Z Z) (ek Z Z (J (Au (b) Z Z) (ek Z Z (J (De Z Z Z) (J (De Z Z Z) ?_))))))));refine AB Z Z (AB Z Z (AD (AC (AE (J (Ay Z Z EE Z Z Z) (J (Au (s) Z Z) (ek Z Z (J (Au (a) Z Z) ?_))))))));refine ek Z Z (J (De Z Z Z) (J (De Z Z Z) (V (Bx 7 Ph Z Z Z Z) (V (B3 Z Z Z Z Z Z Z Yc) (AB Z Z (AD (AC (AE ?_))))))));refine J (Ay Z Z EE Z Z Z) (J (Au (y) Z Z) (AB Z Z (AD (AC (AC (AE (ek Z Z (J (GR Z Z Z) ?_))))))));refine AD (Bw Z (Z) (AE (J (Ay Z Z EE Z Z Z) (ek Z Z (J (Au (z) Z Z) (AB Z Z (AD (AC ?_))))))));refine AC (AE (ek Z Z (ek Z Z (J (C6 Z Z Z) (ek Z Z (Ds 47 Z (Z) (AQ Z Z Z (ek Z Z ?_))))))));refine AQ Z Z Z (ek Z Z (AQ Z Z Z (J (C6 Z Z Z) (J (Be Z Z Z Z) (AD (Cr Z (Z) (AW (AC ?_))))))));refine AC (AE (ek Z Z (J (C6 Z Z Z) (AD (Cr Z (Z) (AW (AC (CK [[],[],[],[1,2],[0,1,2,3],rg 5,rg 6,rg 7,rg 6,rg 6,rg 10,rg 11,rg 12,rg 13] mixed Z ?_))))))));refine By (Ap 5 Z Z (Ao [2] Z Z (λ_=>Aa (Ay Z Z EE Z Z Z)) (Ap 1 Z Z (AR [68,69] Z (Au (u) Z Z) (Bu 4 Z Z Z (Ab 5 Z Z (J (Au (C) Z Z) (AD ⟨Z,?_⟩))))))));refine Ab 6 Z Z (ek Z Z (Ey 72 Z (Z) (AD ⟨Z,?_⟩)));refine By ?_;refine Ao [7,72] Z Z (λ_=>Cq Z Z Z (Ay Z Z Bp Z Z Z)) (Aq [73,72] [] Z Z (λ_=>Cq Z Z Z (Au (w) Z Z)) (Ao [2,72] Z Z (λ_=>Cq Z Z Z (Ay Z Z EE Z Z Z)) (Aq [1,72] [] Z Z (λ_=>Cq Z Z Z (Pe Z Z)) (Bu 10 Z Z Z (Ab 11 Z Z (AQ Z Z Z (J (Au (t) Z Z) (AD ⟨Z,?_⟩))))))));refine Ab 12 Z Z (AQ Z Z Z (J (Au (k) Z Z) (AD ⟨Z,?_⟩)));refine Ab 13 Z Z (J (BZ Z Z Z Z) (AD ⟨Z,?_⟩));refine Ab 14 Z Z (AB Z Z (AD ⟨Z,?_⟩));refine Bz (A2 ?_);exact ⟨_,[],_,A0 Z,Z,Z,Z,Z⟩
   .have b:=fB p S c.b (by omega) (by omega) j;have a:=R4 p S c.b (by omega) (by omega) j
    by_cases g:BB p=0
    have f:CZ p S=K0 (p.it.map AJ.id) S:=κ (by omega);rw[<-f] at z;rw[g] at y;refine Av func8 Z Z ntmps8 Z Z Z λF c=>(AC ?_);refine AE (V (Bh 1 Z Z Z Z Z Z Z) (AB Z Z (AD (AC (AC (AE (J (Au (o) Z Z) (J (NE Z Z) ?_))))))));refine ek Z Z (Ds 12 Z (Z) (AQ Z Z Z (J (Ay Z Z EE Z Z Z) (AQ Z Z Z (J (Au (l) Z Z) (AQ Z Z Z (J (NE Z Z) (J (Be Z Z Z Z) ?_))))))));refine ek Z Z (Ds 17 Z (Z) (AQ Z Z Z (ek Z Z (AQ Z Z Z (J (BS Z E0 Z) (AQ Z Z Z (J (HV Z Z Z) (J (Be Z Z Z Z) ?_))))))));refine AD (Cr Z (gp (by omega)) (AW (AC (AE (J (Ay Z Z EE Z Z Z) (J (Au (s) Z Z) (ek Z Z (J (Au (b) Z Z) ?_))))))));refine ek Z Z (J (De Z Z Z) (J (De Z Z Z) (AB Z Z (AB Z Z (AD (AC (AE (J (Ay Z Z EE Z Z Z) ?_))))))));refine J (Au (s) Z Z) (ek Z Z (J (Au (a) Z Z) (ek Z Z (J (De Z Z Z) (J (De Z Z Z) (V (Bx 7 Ph Z Z Z Z) (V (B3 Z Z Z Z Z Z Z Yc) (AB Z Z ?_))))))));refine AD (AC (AE (J (Ay Z Z EE Z Z Z) (J (Au (y) Z Z) (AB Z Z (AD (AC (AC ?_))))))));refine AE (ek Z Z (J (GR Z Z Z) (AD (Bw Z (Z) (AE (J (Ay Z Z EE Z Z Z) (ek Z Z (J (Au (z) Z Z) ?_))))))));refine AB Z Z (AD (AC (AC (AE (ek Z Z (ek Z Z (J (C6 Z Z Z) (ek Z Z ?_))))))));refine Ds 47 Z (by simp) (AQ Z Z Z (ek Z Z (AQ Z Z Z (ek Z Z (AQ Z Z Z (J (C6 Z Z Z) (J (Be Z Z Z Z) (AD ?_))))))));refine Cr Z (by simp) (AW (AC (AC (AE (ek Z Z (J (C6 Z Z Z) (AD (Bw Z (gi j) ?_))))))))
    rotate_left
    have f:CZ p S=BB p:=ς g;rw[f] at b a;refine Av func8 Z Z ntmps8 Z Z Z λF c=>(AC (AE (V (Bh 1 Z Z Z Z Z Z Z) (AB Z Z (AD ?_)))));refine AC (AC (AE (J (Au (o) Z Z) (J (NE Z Z) (ek Z Z (Ds 12 Z (Z) (AQ Z Z Z (J (Ay Z Z EE Z Z Z) ?_))))))));refine AQ Z Z Z (J (Au (l) Z Z) (AQ Z Z Z (J (NE Z Z) (J (Be Z Z Z Z) (ek Z Z (Ds 17 Z (Z) (AQ Z Z Z (ek Z Z ?_))))))));refine AQ Z Z Z (J (BS Z E0 Z) (AQ Z Z Z (J (HV Z Z Z) (J (Be Z Z Z Z) (AD (Cr Z (gp (by omega)) (AW (AC ?_))))))));refine AE (J (Ay Z Z EE Z Z Z) (J (Au (s) Z Z) (ek Z Z (J (Au (b) Z Z) (ek Z Z (J (De Z Z Z) (J (De Z Z Z) (AB Z Z ?_))))))));refine AB Z Z (AD (AC (AE (J (Ay Z Z EE Z Z Z) (J (Au (s) Z Z) (ek Z Z (J (Au (a) Z Z) (ek Z Z ?_))))))));refine J (De Z Z Z) (J (De Z Z Z) (V (Bx 7 Ph Z Z Z Z) (V (B3 Z Z Z Z Z Z Z Yc) (AB Z Z (AD (AC (AE (J (Ay Z Z EE Z Z Z) ?_))))))));refine J (Au (y) Z Z) (AB Z Z (AD (AC (AC (AE (ek Z Z (J (GR Z Z Z) (AD ?_))))))));refine Cr Z (gp g) (AW (AC (AC (AE (ek Z Z (ek Z Z (J (C6 Z Z Z) (ek Z Z ?_))))))));refine Ds 47 Z (by simp) (AQ Z Z Z (ek Z Z (AQ Z Z Z (ek Z Z (AQ Z Z Z (J (C6 Z Z Z) (J (Be Z Z Z Z) (AD ?_))))))));refine Cr Z (by simp) (AW (AC (AC (AE (ek Z Z (J (C6 Z Z Z) (AD (Bw Z (gi g) ?_))))))))
    all_goals
     refine AC (AE (ek Z Z (J (Jd Z Z T1 Z) (J (GR Z Z Z) (ek Z Z (Ey 57 Z (Z) (AQ Z Z Z (J (AK Z Cc Z Z Z) ?_))))))));refine AQ Z Z Z (J (AO Z Z Z IR Z) (AQ Z Z Z (J (Jd Z Z No Z) (AQ Z Z Z (J (AK Z DW Z Z Z) (AQ Z Z Z (J (AO Z Z Z NO Z) (AQ Z Z Z ?_))))))));refine J (Jd Z Z an Z) (AQ Z Z Z (J (Aj Z Z (Z) Z) (AQ Z Z Z (J (GR Z Z Z) (J (BZ Z Z Z Z) (AB Z Z (AD (A2 ?_))))))));exact ⟨_,[],_,A0 Z,Z,Z,Z,Z⟩
  .have N:=A;refine Av func8 Z Z ntmps8 Z Z Z λF c=>?_;refine AC (AE (V (Bh 1 Z Z Z Z Z Z Z) (AB Z Z (AD (AC (AC (AE (J (Au (o) Z Z) ?_))))))));refine J (NE Z Z) (ek Z Z (Ds 12 Z (Z) (AQ Z Z Z (J (Ay Z Z EE Z Z Z) (AQ Z Z Z (J (Au (l) Z Z) (AQ Z Z Z (J (NE Z Z) ?_))))))));refine J (Be Z Z Z Z) (ek Z Z (Ds 17 Z (Z) (AQ Z Z Z (ek Z Z (AQ Z Z Z (J (BS Z E0 Z) (AQ Z Z Z (J (HV Z Z Z) ?_))))))));refine J (Be Z Z Z Z) (AD (Bw Z (gi (by omega)) (AC (AE (J (Au (o) Z Z) (AB Z Z (AD (A2 ?_))))))));exact ⟨_,[],_,A0 Z,Z,Z,Z,Z⟩
 .rw[gp r] at l;refine Av func8 Z Z ntmps8 Z Z Z λF c=>(AC (AE (V (Bh 1 Z Z Z Z Z Z Z) (AB Z Z (AD (AC ?_))))));refine AC (AE (J (Au (o) Z Z) (J (NE Z Z) (ek Z Z (Ds 12 Z (Z) (AQ Z Z Z (J (Ay Z Z EE Z Z Z) (AQ Z Z Z ?_))))))));refine J (Au (l) Z Z) (AQ Z Z Z (J (NE Z Z) (J (Be Z Z Z Z) (ek Z Z (Ey 17 Z (Z) (AI Z Z Z Z (AI Z Z Z Z (AI Z Z Z Z ?_))))))));refine J (BZ Z Z Z Z) (AD (Bw Z Z (AC (AE (J (Au (o) Z Z) (AB Z Z (AD (A2 ?_))))))));exact ⟨_,[],_,A0 Z,Z,Z,Z,Z⟩
end Go.Proofs.YteifpcnphnhaoaaGreat
namespace Go.Proofs.YteifpcnphnhaoaaGreat
open Go.ChangeShapes Go.WideShapes Go.ChangeAt Go.RowKit
set_option maxRecDepth 100000 in
theorem gridlockParts_lifted(I:Os)(c:I.Started)(H:Type)(enc:TypeId×Value->H):
  ReturnsInHanded {} Tryz.checked I 8 .any (Rows.gridlockPartsSpec.pre6 enc prog Tryz.f8 Rows.gridlockPartsRow.domain false) (Rows.gridlockPartsSpec.post enc prog Tryz.f8 false true false false):=by
 refine returnsInHanded_of_change_sized (C:=Tryz.checked) Tryz.own c (by kernel_rfl) func8
  (ChangeSpec.witness6 (enc:=enc) (C:=Tryz.checked) false ⟨#[], #[.agg #[.slice none 0 0,.slice none 0 0],.slice none 0 0],[]⟩ 8 (by kernel_rfl) (by kernel_rfl) (by kernel_rfl) (by kernel_rfl)) ?_
 intro W u w T gs A g J _ B _;have s:=J;obtain ⟨p,q,E,hV,rfl,_,_⟩:=J;have o:∀x∈p++q,x.block<W.heap.size:=λx h=>s.lt x h;have K:DataW.TrodAll enc prog W 0 (λ_=>true) true Tryz.f8.params.toList w.toList T p:=E;rw[Tryz.params8] at K;obtain ⟨G,y,d0,d1,p0,p1,rfl,rfl,rfl,Q,P⟩:=trodAll_two K;obtain ⟨rfl,rfl⟩:=trodVars_none hV;have k:∀n∈DataW.weightsEach prog ([25,28]:List TypeId) ([d0,d1]),n<=reachBytes:=λn l=>jc (j9.1 B n (by rw[Tryz.params8];exact l));have f:∀(j:Nat) t v,Tryz.f8.params[j]? =some t->(#[G,y]:Array Value)[j]? =some v->Value.okWide prog W .any u t v:=g;rw[Tryz.params8] at f;obtain ⟨n0,S⟩:=Q;obtain ⟨F,rfl,_⟩:=okWide_struct underlying25 (f 0 25 G Z Z);obtain ⟨V,Y,_,M⟩:=(uw) _ _ _ S (λx h=>o x (by simp[h])) (λn l=>k n (DataW.weights_mem_each (j:=0) (t:=25) Z Z n l));obtain ⟨n1,R⟩:=P;have D:y.oneCell'=true:=by obtain ⟨_,_,_,e⟩:=okWide_slice E0 (f 1 28 y Z Z);rw[e];rfl
 obtain ⟨U,X,_,L⟩:=(Ly E0 (by kernel_rfl) (by omega) (b:=8) (by kernel_rfl) (XR underlying3)) _ _ _ R (λx h=>o x (by simp[h])) (λn l=>k n (DataW.weights_mem_each (j:=1) (t:=28) Z Z n l));refine (Z5 (lr V U) (vs:=[.agg F,y]) Z (λi a v r z=>?_)).mono λe W' ⟨N,O⟩=>?_
 .rcases i with _ | _ | i
  .simp at r z;subst r z;exact P7.argS Z M
  .simp at r z;subst r z;exact P7.arg1 Z Z D L
  .simp at r
 subst N;exact ⟨_,Z,dX (tb:=4) Tryz.laidOut (by kernel_rfl) Z Z underlying4 s ⟨Z,Z,Z⟩ O⟩
theorem vk:(Rows.gridlockPartsRow.inPlace==prog.inPlace 8)=true:=by kernel_rfl
theorem vj:(Rows.gridlockPartsRow.unfollowed==prog.unfollowed 8)=true:=by kernel_rfl
theorem vi:(Rows.gridlockPartsRow.recurses==prog.recurses 8)=true:=by kernel_rfl
theorem vh:(Rows.gridlockPartsRow.named==prog.varsNamed 8)=true:=by kernel_rfl
theorem vg:joinedFacts prog 8 Tryz.f8 Rows.gridlockPartsSpec Rows.gridlockPartsRow=true:=by
 unfold joinedFacts;rw[vk,vj,vi,vh]
 kernel_rfl
theorem gridlockParts_holds:Rows.GridlockPartsSaid:=
 OpenClaim.holds_of_wide 8 Tryz.f8 Z Z Z Z Z Z Z ⟨Z,Z,Z,Z,Z⟩ Z Z Z Z Z (by kernel_rfl) func8 vg
  (jc (by kernel_rfl)) (by unfold Func.isWrapper;first | (rw[ς (by decide+kernel)];kernel_rfl) | (rw[κ (by decide+kernel)];exact ⟨Z,Z⟩))
  (λc a H b _=>gridlockParts_lifted c a H b)
#print axioms gridlockParts_holds
end Go.Proofs.YteifpcnphnhaoaaGreat
