/- Proved here: gridlockWaits_holds, the given statement Rows.GridlockWaitsSaid: the law girolaw32.GridlockWaits returns true and does not panic, at every input that the statement speaks of; no condition beyond the statement. -/
/- 'girolaw32.GridlockWaits': for every input the law returns true, and each argument reads behind the call as it read before. No condition. -/
import Derived.Test.YteifpcnphnhaoaaGreatMg21
open Go.Proofs.Tryz
namespace Go.Proofs.YteifpcnphnhaoaaGreat
open Go.RowKit Go.Shelf
set_option maxRecDepth 100000 in
set_option maxHeartbeats 4000000 in
theorem ou(p:hU):AI prog 6 [.d (BG p)] (.raw (.bool true)):=by
 have l:=bR;have j:=nu p
 by_cases g:xC p
 .rw[Υ g] at j;have a:=pY g;have Q:=g.1;have P:=g.2.1;have h:=wJ p g;have u:=U6 p (by omega) (by omega) (λi E=>by have:=a.x i E;omega)
  by_cases b:Ac p=0
  rw[b] at u;have D:=Ef b;have H:=Mq a;have B:=VN p b a;have v:=ba p ⟨a,D6 b,HI (IL b).1⟩;rw[<-b9 b a] at v;have o:=eQ p b a;have w:=eR p a b;have I:=qR b a;have A:=nw (km p) (by omega);have N:=iI p;have y:=fz _ (rK (qL (j1 p) (kD p)) (by omega));have k:=ca p a b;have c:=SP p a b;have f:=SS p a b;have C:=eN p b a;have O:=iK p;have z:=fz _ (rK (nW (j1 p) (Lm p)) (by omega))
  obtain ⟨L,K⟩:∃x,fl p=x:=⟨_,Z⟩
  obtain ⟨G,M⟩:∃x,Bu p=x:=⟨_,Z⟩
  rw[K] at B o w;rw[M] at v o
  obtain ⟨T,t⟩:∃x,ll (j1 p) (Lm p)=x:=⟨_,Z⟩
  obtain ⟨S,s⟩:∃x,lD (j1 p) (kD p)=x:=⟨_,Z⟩
  obtain ⟨R,r⟩:∃x,km p=x:=⟨_,Z⟩
  rw[t] at k C z;rw[s] at c o y;rw[r] at f w A;refine As func6 Z Z ntmps6 Z Z Z λF a=>(AD (AF (V (B7 1 Z Z Z Z Z Z Z) (AB Z Z (AC (AD (AD ?_)))))));refine AF (J (Aj (l) Z Z) (J (QX Z Z) (ch Z Z (Ir 14 Z (Z) (AT Z Z Z (J (Ap Z Z By Z Z Z) (AT Z Z Z (J (Aj (j) Z Z) ?_))))))));refine AT Z Z Z (J (QX Z Z) (J (Bx Z Z Z Z) (AC (Cq Z (Z) (AU (AD (AF (J (Ap Z Z By Z Z Z) ?_))))))));refine J (Aj (h) Z Z) (J (Aj (k) Z Z) (ch Z Z (J (Cc Z Z Z) (J (Cc Z Z Z) (AB Z Z (AB Z Z (AC (AD ?_))))))));refine AF (J (Ap Z Z By Z Z Z) (J (Aj (h) Z Z) (J (Aj (c) Z Z) (ch Z Z (J (Cc Z Z Z) (J (Cc Z Z Z) (AB Z Z (AB Z Z ?_))))))));refine AC (AD (AF (J (Ap Z Z By Z Z Z) (J (Aj (h) Z Z) (J (Aj (f) Z Z) (ch Z Z (J (Cc Z Z Z) (J (Cc Z Z Z) ?_))))))));refine AB Z Z (AB Z Z (AC (AD (AD (AF (J (Ap Z Z By Z Z Z) (J (Aj (u) Z Z) (AB Z Z ?_))))))));refine AC (AD (AF (ch Z Z (J (DJ Z Z Z) (AC (Cq Z (Z) (AU (AD ?_))))))));refine Bq [[],[0],[],[0,1,2],[0,1,2,3],rg 5] mixed Z (B2 (Ay [1] Z Z (λ_=>Aa (Ap Z Z By Z Z Z)) (AK [66] Z (Aj (B) Z Z) (Ay [1] Z Z (λ_=>Aa (Ap Z Z By Z Z Z)) (BV 3 Z Z Z (A0 4 Z Z (J (Aj (v) Z Z) (AC ⟨Z,?_⟩))))))));refine A0 5 Z Z (AB Z Z (AC ⟨Z,?_⟩));refine A0 6 Z Z (AB Z Z (AC ⟨Z,?_⟩));refine Bb (AD (AF ?_));refine ch Z Z (J (Fa Z Z Z) (ch Z Z (Co 72 Z (Z) (AT Z Z Z (ch Z Z (AT Z Z Z (J (Fa Z Z Z) (J (B8 Z Z Z Z) ?_))))))));refine ch Z Z (Co 76 Z (Z) (AT Z Z Z (ch Z Z (AT Z Z Z (J (Fa Z Z Z) (J (B8 Z Z Z Z) (ch Z Z (Co 80 Z (Z) ?_))))))));refine AT Z Z Z (ch Z Z (AT Z Z Z (J (Ap Z Z By Z Z Z) (AT Z Z Z (J (Aj (C) Z Z) (AT Z Z Z (J (Aj (z) Z Z) (J (B8 Z Z Z Z) ?_))))))));refine ch Z Z (Co 86 Z (Z) (AT Z Z Z (ch Z Z (AT Z Z Z (J (Ap Z Z By Z Z Z) (AT Z Z Z (ch Z Z (AT Z Z Z ?_))))))));refine ch Z Z (AT Z Z Z (J (Aj (o) Z Z) (AT Z Z Z (J (Aj (y) Z Z) (J (B8 Z Z Z Z) (ch Z Z (Co 94 Z (Z) (AT Z Z Z ?_))))))));refine ch Z Z (AT Z Z Z (J (Ap Z Z By Z Z Z) (AT Z Z Z (ch Z Z (AT Z Z Z (J (Aj (w) Z Z) (AT Z Z Z (J (Aj (A) Z Z) ?_))))))))
  rotate_left
  have k:=Wk p a.b b;have c:=Tf p a b;have f:=WR p a b;refine As func6 Z Z ntmps6 Z Z Z λF a=>(AD (AF (V (B7 1 Z Z Z Z Z Z Z) ?_)));refine AB Z Z (AC (AD (AD (AF (J (Aj (l) Z Z) (J (QX Z Z) (ch Z Z (Ir 14 Z (Z) ?_))))))));refine AT Z Z Z (J (Ap Z Z By Z Z Z) (AT Z Z Z (J (Aj (j) Z Z) (AT Z Z Z (J (QX Z Z) (J (Bx Z Z Z Z) (AC (Cq Z (Z) ?_))))))));refine AU (AD (AF (J (Ap Z Z By Z Z Z) (J (Aj (h) Z Z) (J (Aj (k) Z Z) (ch Z Z (J (Cc Z Z Z) (J (Cc Z Z Z) ?_))))))));refine AB Z Z (AB Z Z (AC (AD (AF (J (Ap Z Z By Z Z Z) (J (Aj (h) Z Z) (J (Aj (c) Z Z) (ch Z Z ?_))))))));refine J (Cc Z Z Z) (J (Cc Z Z Z) (AB Z Z (AB Z Z (AC (AD (AF (J (Ap Z Z By Z Z Z) (J (Aj (h) Z Z) ?_))))))));refine J (Aj (f) Z Z) (ch Z Z (J (Cc Z Z Z) (J (Cc Z Z Z) (AB Z Z (AB Z Z (AC (AD (AD ?_))))))));refine AF (J (Ap Z Z By Z Z Z) (J (Aj (u) Z Z) (AB Z Z (AC (AD (AF (ch Z Z (J (DJ Z Z Z) ?_))))))));refine AC (CM Z (Υ b) (AD (AF (ch Z Z (ch Z Z (J (Fa Z Z Z) (ch Z Z (Co 45 Z (by simp) ?_))))))));refine AT Z Z Z (ch Z Z (AT Z Z Z (ch Z Z (AT Z Z Z (J (Fa Z Z Z) (J (B8 Z Z Z Z) (ch Z Z (Co 50 Z (by simp) ?_))))))));refine AT Z Z Z (ch Z Z (AT Z Z Z (ch Z Z (AT Z Z Z (J (Fa Z Z Z) (J (B8 Z Z Z Z) (ch Z Z (Co 55 Z (by simp) ?_))))))));refine AT Z Z Z (ch Z Z (AT Z Z Z (J (I2 Z Z R4 Z) (AT Z Z Z (ch Z Z (AT Z Z Z (J (I2 Z Z R4 Z) (AT Z Z Z ?_))))))));refine J (Ad Z Z (Z) Z) (AT Z Z Z (ch Z Z (AT Z Z Z (J (I2 Z Z cG Z) (AT Z Z Z (J (Ad Z Z (Z) Z) (AT Z Z Z (J (Fa Z Z Z) ?_))))))))
  all_goals
   refine J (B8 Z Z Z Z) (AB Z Z (AC (A4 ?_)));exact ⟨_,[],_,A2 Z,Z,Z,Z,Z⟩
 .rw[kC g] at j;refine As func6 Z Z ntmps6 Z Z Z λF a=>?_;refine AD (AF (V (B7 1 Z Z Z Z Z Z Z) (AB Z Z (AC (AD (AD (AF (J (Aj (l) Z Z) ?_))))))));refine J (QX Z Z) (ch Z Z (Ir 14 Z (Z) (AT Z Z Z (J (Ap Z Z By Z Z Z) (AT Z Z Z (J (Aj (j) Z Z) (AT Z Z Z (J (QX Z Z) ?_))))))));refine J (Bx Z Z Z Z) (AC (CM Z (Z) (AD (AF (J (Aj (l) Z Z) (AB Z Z (AC (A4 ?_))))))));exact ⟨_,[],[],A2 Z,Z,Z,Z,Z⟩
end Go.Proofs.YteifpcnphnhaoaaGreat
namespace Go.Proofs.YteifpcnphnhaoaaGreat
open Go.ChangeShapes Go.WideShapes Go.ChangeAt Go.RowKit
set_option maxRecDepth 100000 in
theorem gridlockWaits_lifted(D:Os)(b:D.Started)(H:Type)(enc:TypeId×Value->H):
  ReturnsInHanded {} Tryz.checked D 6 .any (Rows.gridlockWaitsSpec.pre6 enc prog Tryz.f6 Rows.gridlockWaitsRow.domain false) (Rows.gridlockWaitsSpec.post enc prog Tryz.f6 false true false false):=by
 refine returnsInHanded_of_change_sized (C:=Tryz.checked) Tryz.own b (by kernel_rfl) func6
  (ChangeSpec.witness6 (enc:=enc) (C:=Tryz.checked) false ⟨#[], #[.agg #[.slice none 0 0,.slice none 0 0]],[]⟩ 8 (by kernel_rfl) (by kernel_rfl) (by kernel_rfl) (by kernel_rfl)) ?_
 intro W h k N R l f F _ s _;have g:=F;obtain ⟨p,q,z,hV,rfl,_,_⟩:=F;have w:∀x∈p++q,x.block<W.heap.size:=λx o=>g.lt x o;have G:DataW.TrodAll enc prog W 0 (λ_=>true) true Tryz.f6.params.toList k.toList N p:=z;rw[Tryz.params6] at G;obtain ⟨B,d0,rfl,rfl,L⟩:=trodAll_one G;obtain ⟨rfl,rfl⟩:=trodVars_none hV;have r:∀n∈DataW.weightsEach prog ([25]:List TypeId) ([d0]),n<=reachBytes:=λn u=>lK (mo.1 s n (by rw[Tryz.params6];exact u));have c:∀(j:Nat) t v,Tryz.f6.params[j]? =some t->(#[B]:Array Value)[j]? =some v->Value.okWide prog W .any h t v:=f;rw[Tryz.params6] at c;obtain ⟨Q,M⟩:=L;obtain ⟨A,rfl,_⟩:=okWide_struct underlying25 (c 0 25 B Z Z);obtain ⟨O,P,_,I⟩:=(xp) _ _ _ M (λx o=>w x (by simp[o])) (λn u=>r n (DataW.weights_mem_each (j:=0) (t:=25) Z Z n u));refine (bK (ou O) (vs:=[.agg A]) Z (λi a v y E=>?_)).mono λe S ⟨J,K⟩=>?_
 .rcases i with _ | i
  .simp at y E;subst y E;exact YG.argS Z I
  .simp at y
 subst J;exact ⟨_,Z,gG (tb:=4) Tryz.laidOut (by kernel_rfl) Z Z underlying4 g ⟨Z,Z,Z⟩ K⟩
theorem ya:(Rows.gridlockWaitsRow.inPlace==prog.inPlace 6)=true:=by kernel_rfl
theorem y9:(Rows.gridlockWaitsRow.unfollowed==prog.unfollowed 6)=true:=by kernel_rfl
theorem y8:(Rows.gridlockWaitsRow.recurses==prog.recurses 6)=true:=by kernel_rfl
theorem y7:(Rows.gridlockWaitsRow.named==prog.varsNamed 6)=true:=by kernel_rfl
theorem y6:joinedFacts prog 6 Tryz.f6 Rows.gridlockWaitsSpec Rows.gridlockWaitsRow=true:=by
 unfold joinedFacts;rw[ya,y9,y8,y7]
 kernel_rfl
theorem gridlockWaits_holds:Rows.GridlockWaitsSaid:=
 OpenClaim.holds_of_wide 6 Tryz.f6 Z Z Z Z Z Z Z ⟨Z,Z,Z,Z,Z⟩ Z Z Z Z Z (by kernel_rfl) func6 y6
  (lK (by kernel_rfl)) (by unfold Func.isWrapper;first | (rw[ϱ (by decide+kernel)];kernel_rfl) | (rw[ν (by decide+kernel)];exact ⟨Z,Z⟩))
  (λc a H b _=>gridlockWaits_lifted c a H b)
#print axioms gridlockWaits_holds
end Go.Proofs.YteifpcnphnhaoaaGreat
