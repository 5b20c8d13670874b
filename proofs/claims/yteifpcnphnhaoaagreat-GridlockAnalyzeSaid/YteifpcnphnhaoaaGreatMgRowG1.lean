/- Proved here: gridlockAnalyze_holds, the given statement Rows.GridlockAnalyzeSaid: the law girolaw32.GridlockAnalyze returns true and does not panic, at every input that the statement speaks of; no condition beyond the statement. -/
/- 'girolaw32.GridlockAnalyze': for every input the law returns true, and each argument reads behind the call as it read before. No condition. -/
import Derived.Test.YteifpcnphnhaoaaGreatMg21
open Go.Proofs.Tryz
namespace Go.Proofs.YteifpcnphnhaoaaGreat
open Go.RowKit Go.Shelf
set_option maxRecDepth 100000 in
set_option maxHeartbeats 4000000 in
theorem ov(p:iB):AI prog 3 [.d (BM p)] (.raw (.bool true)):=by
 have h:=bQ;have g:=nv p
 by_cases f:xK p
 .rw[Υ f] at g;have b:=p8 f;have Q:=f.1;have P:=f.2.1;have C:=wR p f;have s:=U5 p (by omega) (by omega) (λi E=>by have:=b.x i E;omega)
  by_cases c:Ad p=0
  .rw[c] at s;have D:=Ec c;have H:=Mo b;have B:=VO p c b;have t:=b6 p ⟨b,Da c,HF (HZ c).1⟩;rw[<-bZ c b] at t;have j:=eQ p c b;have v:=eR p b c;have I:=qW c b;have A:=ny (kp p) (by omega);have O:=iF p;have w:=fy _ (rQ (qQ (jf p) (kF p)) (by omega));have N:=Vj p (gg p);have a:=QH p b c;have u:=a9 p (gg p) c b (by omega);have k:=fy _ (rQ (i5 (jf p) (DM p (gg p))) (by omega));have y:=sG (gg p) (by omega);have z:=sG (Bp p) (by omega);unfold mT at a
   obtain ⟨L,K⟩:∃x,gg p=x:=⟨_,Z⟩
   obtain ⟨G,M⟩:∃x,Bp p=x:=⟨_,Z⟩
   rw[K] at a B u j v k y;rw[M] at a t j z
   obtain ⟨T,r⟩:∃x,jx (jf p) (DM p L)=x:=⟨_,Z⟩
   obtain ⟨S,o⟩:∃x,lF (jf p) (kF p)=x:=⟨_,Z⟩
   obtain ⟨R,l⟩:∃x,kp p=x:=⟨_,Z⟩
   rw[r] at a u k;rw[o] at a j w;rw[l] at a v A;refine Av func3 Z Z ntmps3 Z Z Z λF b=>(AD (AF (V (Ba 1 Z Z Z Z Z Z Z) (AB Z Z ?_))));refine AC (AD (AD (AF (J (Ak (h) Z Z) (J (QV Z Z) (cl Z Z (Il 10 Z (Z) (AT Z Z Z ?_))))))));refine J (Ar Z Z Bx Z Z Z) (AT Z Z Z (J (Ak (g) Z Z) (AT Z Z Z (J (QV Z Z) (J (Br Z Z Z Z) (AC (Cr Z (Z) (AU ?_))))))));refine AD (AF (J (Ar Z Z Bx Z Z Z) (J (Ak (C) Z Z) (J (Ak (a) Z Z) (cl Z Z (J (DI Z Z Z) (J (DI Z Z Z) (V (CF 3 Tv Z Z Z Z) ?_))))))));refine V (Bc Z Z Z Z Z Z Z dC) (AB Z Z (AC (AD (AD (AF (J (Ar Z Z Bx Z Z Z) (J (Ak (s) Z Z) (AB Z Z ?_))))))));refine AC (AD (AF (cl Z Z (J (DP Z Z Z) (AC (Cr Z (Z) (AU (AD ?_))))))));refine Bm [[],[0],[],[0,1,2],[0,1,2,3],rg 5] mixed Z (BY (Ay [1] Z Z (λ_=>A9 (Ar Z Z Bx Z Z Z)) (AK [51] Z (Ak (B) Z Z) (Ay [1] Z Z (λ_=>A9 (Ar Z Z Bx Z Z Z)) (BR 3 Z Z Z (AZ 4 Z Z (J (Ak (t) Z Z) (AC ⟨Z,?_⟩))))))));refine AZ 5 Z Z (AB Z Z (AC ⟨Z,?_⟩));refine AZ 6 Z Z (AB Z Z (AC ⟨Z,?_⟩));refine Bb (AD (Bm [[],[0],[0,1],[0,1,2],[0,1,2,3],[0,1,2],rg 6,rg 7,rg 8,rg 9,rg 10,rg 9,rg 12,rg 13,rg 14,rg 15,rg 16,rg 15,rg 15,[0,1,2,3,4,5,6,7,8,9,10,11,12,13,14,17,18],rg 20,rg 21,rg 22,rg 23,rg 24,rg 23,rg 23,rg 23,[0,1,2,3,4,5,6,7,8,9,10,11,12,13,14,15,16,17,18,19,20,21,22,25,26,27],rg 29,rg 30,rg 31,rg 32,rg 33,rg 32,rg 32,[0,1,2,3,4,5,6,7,8,9,10,11,12,13,14,15,16,17,18,19,20,21,22,23,24,25,26,27,28,29,30,31,34,35],rg 37,rg 38,rg 39] mixed Z (AZ 1 Z Z (cl Z Z (AC ⟨Z,?_⟩)))));refine AZ 2 Z Z (J (GW Z Z Z) (AC ⟨Z,?_⟩));refine AZ 3 Z Z (cl Z Z (DK 57 Z (Z) (AC ⟨Z,?_⟩)));refine BY (A1 [3,57] [] Z Z (λ_=>BO Z Z Z (AL Z lR Z Z Z)) (Ay [58,57] Z Z (λ_=>BO Z Z Z (AQ Z Z Z BJ Z)) (A1 [6,57] [] Z Z (λ_=>BO Z Z Z (FF Z Z)) (BR 6 Z Z Z (AZ 7 Z Z (AT Z Z Z (J (Ak (y) Z Z) (AC ⟨Z,?_⟩))))))));refine AZ 8 Z Z (J (B4 Z Z Z Z) (AC ⟨Z,?_⟩));refine AZ 9 Z Z (cl Z Z (DK 63 Z (Z) (AC ⟨Z,?_⟩)));refine BY (A1 [3,63] [] Z Z (λ_=>BO Z Z Z (AL Z lu Z Z Z)) (Ay [64,63] Z Z (λ_=>BO Z Z Z (AQ Z Z Z BJ Z)) (A1 [7,63] [] Z Z (λ_=>BO Z Z Z (FF Z Z)) (BR 12 Z Z Z (AZ 13 Z Z (AT Z Z Z (J (Ak (z) Z Z) (AC ⟨Z,?_⟩))))))));refine AZ 14 Z Z (J (B4 Z Z Z Z) (AC ⟨Z,?_⟩));refine AZ 15 Z Z (cl Z Z (DK 69 Z (Z) (AC ⟨Z,?_⟩)));refine BY (A1 [3,69] [] Z Z (λ_=>BO Z Z Z (AL Z TL Z Z Z)) ?_);refine Ay [70,69] Z Z (λ_=>BO Z Z Z (AQ Z Z Z ar Z)) (Ay [1,69] Z Z (λ_=>BO Z Z Z (Ar Z Z Bx Z Z Z)) (A1 [6,69] [] Z Z (λ_=>BO Z Z Z (FF Z Z)) (A1 [72,73,69] [] Z Z (λ_=>BO Z Z Z (Ak (u) Z Z)) (BR 20 Z Z Z (AZ 21 Z Z (AT Z Z Z (J (Ak (k) Z Z) (AC ⟨Z,?_⟩))))))));refine AZ 22 Z Z (J (B4 Z Z Z Z) (AC ⟨Z,?_⟩));refine AZ 23 Z Z (cl Z Z (DK 77 Z (Z) (AC ⟨Z,?_⟩)));refine BY (A1 [3,77] [] Z Z (λ_=>BO Z Z Z (AL Z lr Z Z Z)) (Ay [78,77] Z Z (λ_=>BO Z Z Z (AQ Z Z Z ar Z)) ?_));refine Ay [1,77] Z Z (λ_=>BO Z Z Z (Ar Z Z Bx Z Z Z)) (A1 [6,77] [] Z Z (λ_=>BO Z Z Z (FF Z Z)) (A1 [7,77] [] Z Z (λ_=>BO Z Z Z (FF Z Z)) (A1 [80,81,82,77] [] Z Z (λ_=>BO Z Z Z (Ak (j) Z Z)) (BR 29 Z Z Z (AZ 30 Z Z (AT Z Z Z (J (Ak (w) Z Z) (AC ⟨Z,?_⟩))))))));refine AZ 31 Z Z (J (B4 Z Z Z Z) (AC ⟨Z,?_⟩));refine AZ 32 Z Z (cl Z Z (DK 86 Z (Z) (AC ⟨Z,?_⟩)));refine BY (A1 [3,86] [] Z Z (λ_=>BO Z Z Z (AL Z kt Z Z Z)) ?_);refine Ay [87,86] Z Z (λ_=>BO Z Z Z (AQ Z Z Z fJ Z)) (Ay [1,86] Z Z (λ_=>BO Z Z Z (Ar Z Z Bx Z Z Z)) (A1 [6,86] [] Z Z (λ_=>BO Z Z Z (FF Z Z)) (A1 [89,90,86] [] Z Z (λ_=>BO Z Z Z (Ak (v) Z Z)) (BR 37 Z Z Z (AZ 38 Z Z (AT Z Z Z (J (Ak (A) Z Z) (AC ⟨Z,?_⟩))))))));refine AZ 39 Z Z (J (B4 Z Z Z Z) (AC ⟨Z,?_⟩));refine AZ 40 Z Z (AB Z Z (AC ⟨Z,?_⟩));refine Bb (A5 ?_);exact ⟨_,[],_,A2 Z,Z,Z,Z,Z⟩
  .have a:=Th p b c;refine Av func3 Z Z ntmps3 Z Z Z λF b=>(AD (AF (V (Ba 1 Z Z Z Z Z Z Z) (AB Z Z (AC (AD (AD (AF ?_))))))));refine J (Ak (h) Z Z) (J (QV Z Z) (cl Z Z (Il 10 Z (Z) (AT Z Z Z (J (Ar Z Z Bx Z Z Z) (AT Z Z Z (J (Ak (g) Z Z) (AT Z Z Z ?_))))))));refine J (QV Z Z) (J (Br Z Z Z Z) (AC (Cr Z (Z) (AU (AD (AF (J (Ar Z Z Bx Z Z Z) (J (Ak (C) Z Z) ?_))))))));refine J (Ak (a) Z Z) (cl Z Z (J (DI Z Z Z) (J (DI Z Z Z) (V (CF 3 Tv Z Z Z Z) (V (Bc Z Z Z Z Z Z Z dC) (AB Z Z (AC (AD ?_))))))));refine AD (AF (J (Ar Z Z Bx Z Z Z) (J (Ak (s) Z Z) (AB Z Z (AC (AD (AF (cl Z Z ?_))))))));refine J (DP Z Z Z) (AC (CM Z (Υ c) (AD (AF (cl Z Z (cl Z Z (J (GW Z Z Z) (cl Z Z ?_))))))));refine DK 29 Z (by simp) (AT Z Z Z (J (AL Z lR Z Z Z) (AT Z Z Z (J (AQ Z Z Z BJ Z) (AT Z Z Z (J (IR Z Z E0 Z) (AT Z Z Z (J (AL Z lu Z Z Z) ?_))))))));refine AT Z Z Z (J (AQ Z Z Z BJ Z) (AT Z Z Z (J (IR Z Z E0 Z) (AT Z Z Z (J (Ac Z Z (Z) Z) (AT Z Z Z (J (AL Z TL Z Z Z) (AT Z Z Z ?_))))))));refine J (AQ Z Z Z ar Z) (AT Z Z Z (J (IR Z Z R4 Z) (AT Z Z Z (J (Ac Z Z (Z) Z) (AT Z Z Z (J (AL Z lr Z Z Z) (AT Z Z Z (J (AQ Z Z Z ar Z) ?_))))))));refine AT Z Z Z (J (IR Z Z R4 Z) (AT Z Z Z (J (Ac Z Z (Z) Z) (AT Z Z Z (J (AL Z kt Z Z Z) (AT Z Z Z (J (AQ Z Z Z fJ Z) (AT Z Z Z ?_))))))));refine J (IR Z Z cC Z) (AT Z Z Z (J (Ac Z Z (Z) Z) (AT Z Z Z (J (GW Z Z Z) (J (B4 Z Z Z Z) (AB Z Z (AC (A5 ?_))))))));exact ⟨_,[],_,A2 Z,Z,Z,Z,Z⟩
 .rw[kD f] at g;refine Av func3 Z Z ntmps3 Z Z Z λF b=>?_;refine AD (AF (V (Ba 1 Z Z Z Z Z Z Z) (AB Z Z (AC (AD (AD (AF (J (Ak (h) Z Z) ?_))))))));refine J (QV Z Z) (cl Z Z (Il 10 Z (Z) (AT Z Z Z (J (Ar Z Z Bx Z Z Z) (AT Z Z Z (J (Ak (g) Z Z) (AT Z Z Z (J (QV Z Z) ?_))))))));refine J (Br Z Z Z Z) (AC (CM Z (Z) (AD (AF (J (Ak (h) Z Z) (AB Z Z (AC (A5 ?_))))))));exact ⟨_,[],[],A2 Z,Z,Z,Z,Z⟩
end Go.Proofs.YteifpcnphnhaoaaGreat
namespace Go.Proofs.YteifpcnphnhaoaaGreat
open Go.ChangeShapes Go.WideShapes Go.ChangeAt Go.RowKit
set_option maxRecDepth 100000 in
theorem gridlockAnalyze_lifted(D:Os)(b:D.Started)(H:Type)(enc:TypeId×Value->H):
  ReturnsInHanded {} Tryz.checked D 3 .any (Rows.gridlockAnalyzeSpec.pre6 enc prog Tryz.f3 Rows.gridlockAnalyzeRow.domain false) (Rows.gridlockAnalyzeSpec.post enc prog Tryz.f3 false true false false):=by
 refine returnsInHanded_of_change_sized (C:=Tryz.checked) Tryz.own b (by kernel_rfl) func3
  (ChangeSpec.witness6 (enc:=enc) (C:=Tryz.checked) false ⟨#[], #[.agg #[.slice none 0 0,.slice none 0 0]],[]⟩ 8 (by kernel_rfl) (by kernel_rfl) (by kernel_rfl) (by kernel_rfl)) ?_
 intro W h k N R l f F _ s _;have g:=F;obtain ⟨p,q,z,hV,rfl,_,_⟩:=F;have w:∀x∈p++q,x.block<W.heap.size:=λx o=>g.lt x o;have G:DataW.TrodAll enc prog W 0 (λ_=>true) true Tryz.f3.params.toList k.toList N p:=z;rw[Tryz.params3] at G;obtain ⟨B,d0,rfl,rfl,L⟩:=trodAll_one G;obtain ⟨rfl,rfl⟩:=trodVars_none hV;have r:∀n∈DataW.weightsEach prog ([25]:List TypeId) ([d0]),n<=reachBytes:=λn u=>lG (ms.1 s n (by rw[Tryz.params3];exact u));have c:∀(j:Nat) t v,Tryz.f3.params[j]? =some t->(#[B]:Array Value)[j]? =some v->Value.okWide prog W .any h t v:=f;rw[Tryz.params3] at c;obtain ⟨Q,M⟩:=L;obtain ⟨A,rfl,_⟩:=okWide_struct underlying25 (c 0 25 B Z Z);obtain ⟨O,P,_,I⟩:=(xv) _ _ _ M (λx o=>w x (by simp[o])) (λn u=>r n (DataW.weights_mem_each (j:=0) (t:=25) Z Z n u));refine (bJ (ov O) (vs:=[.agg A]) Z (λi a v y E=>?_)).mono λe S ⟨J,K⟩=>?_
 .rcases i with _ | i
  .simp at y E;subst y E;exact YB.argS Z I
  .simp at y
 subst J;exact ⟨_,Z,gF (tb:=4) Tryz.laidOut (by kernel_rfl) Z Z underlying4 g ⟨Z,Z,Z⟩ K⟩
theorem yg:(Rows.gridlockAnalyzeRow.inPlace==prog.inPlace 3)=true:=by kernel_rfl
theorem yf:(Rows.gridlockAnalyzeRow.unfollowed==prog.unfollowed 3)=true:=by kernel_rfl
theorem ye:(Rows.gridlockAnalyzeRow.recurses==prog.recurses 3)=true:=by kernel_rfl
theorem yc:(Rows.gridlockAnalyzeRow.named==prog.varsNamed 3)=true:=by kernel_rfl
theorem yb:joinedFacts prog 3 Tryz.f3 Rows.gridlockAnalyzeSpec Rows.gridlockAnalyzeRow=true:=by
 unfold joinedFacts;rw[yg,yf,ye,yc]
 kernel_rfl
theorem gridlockAnalyze_holds:Rows.GridlockAnalyzeSaid:=
 OpenClaim.holds_of_wide 3 Tryz.f3 Z Z Z Z Z Z Z ⟨Z,Z,Z,Z,Z⟩ Z Z Z Z Z (by kernel_rfl) func3 yb
  (lG (by kernel_rfl)) (by unfold Func.isWrapper;first | (rw[ϱ (by decide+kernel)];kernel_rfl) | (rw[υ (by decide+kernel)];exact ⟨Z,Z⟩))
  (λc a H b _=>gridlockAnalyze_lifted c a H b)
#print axioms gridlockAnalyze_holds
end Go.Proofs.YteifpcnphnhaoaaGreat
