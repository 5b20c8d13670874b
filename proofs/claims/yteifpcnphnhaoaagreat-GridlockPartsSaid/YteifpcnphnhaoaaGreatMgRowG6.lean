/- 'girolaw32.GridlockParts': for every input the law returns true, and each argument reads behind the call as it read before. No condition. -/
import Derived.Test.YteifpcnphnhaoaaGreatMg28
open Go.Proofs.Tryz
namespace Go.Proofs.YteifpcnphnhaoaaGreat
open Go.RowKit Go.Shelf
theorem bV {p:fj} (h:rO p) (S:List Int):(gO p S).ro.length<=24/\(gO p S).it.length<=12/\∀i∈(gO p S).it,i.po.length<=12/\i.pa.length<=12/\i.af.length<=12:=by
 obtain ⟨g,f,c⟩:=h;refine ⟨gJ (gz _ _) f,by unfold gO;show (List.map _ _).length<=12;rw [χ];exact gJ (gz _ _) g,λi b=>?_⟩;obtain ⟨j,a,rfl⟩:=Θ.1 b;have:=c j (gS.1 a).1;exact ⟨this.1,this.2.1,gJ (Vm S j.af) this.2.2⟩
set_option maxRecDepth 100000 in
set_option maxHeartbeats 4000000 in
theorem lZ (p:fj) (S:List Int):AK prog 8 [.d (Bq p),.d (Ga S)] (.raw (.bool true)):=by
 have o:=ZQ;have l:=ke p
 by_cases r:rO p
 .rw [gQ r] at l;have c:=ly r;have M:=r.1;have L:=r.2.1;have s:=s8 p r;have y:=Sz p (by omega) (by omega) (λi v=>by have:=c.x i v;omega)
  by_cases A:S.length<=20
  .have z:=kf p S (by omega) (by omega)
   by_cases j:CX p S=0
   .have g:=LF j;have f:KG (p.it.map AI.id) S=0:=by have h:=j;unfold CX at h;rwa [θ (by omega)] at h
    have D:=Zf j;rw [g] at y;rw [f] at z;have b:=eL p S c (by omega) j g D;have a:=V3 p S c (by omega) j g D;have u:=Yk p S g c (by omega);have t:=V6 p S g c (by omega);have K:=dj p S;have C:=pW _ (rp (eN (ft p) (DX p S)) (by omega));obtain ⟨I,H,B⟩:=bV r S;have w:=back_p (gO p S) (by omega) (by omega) λi v=>by have:=B i v;omega
    have k:=same_p (gO p S) (gO p S) ⟨by omega,by omega,λi v=>by have:=B i v;omega⟩;rw [gQ ⟨Z,Z⟩] at k
    obtain ⟨T,E⟩:∃x,gL (ft p) (DX p S)=x:=⟨_,Z⟩
    rw [E] at b u C
    obtain ⟨Q,G⟩:∃x,gO p S=x:=⟨_,Z⟩
    rw [G] at a t w k;refine At func8 Z Z ntmps8 Z Z Z λF c=>(AC (AE (V (Bo 1 Z Z Z Z Z Z Z) (AB Z Z ?_))));refine AD (AC (AC (AE (J (As (o) Z Z) (J (Mp Z Z) (fZ Z Z (Dr 12 Z (Z) (AQ Z Z Z ?_))))))));refine J (Ay Z Z EM Z Z Z) (AQ Z Z Z (J (As (l) Z Z) (AQ Z Z Z (J (Mp Z Z) (J (Bk Z Z Z Z) (fZ Z Z (Dr 17 Z (Z) (AQ Z Z Z ?_))))))));refine fZ Z Z (AQ Z Z Z (J (Ba Z ch Z) (AQ Z Z Z (J (HF Z Z Z) (J (Bk Z Z Z Z) (AD (Cm Z (gV (by omega)) (AX ?_))))))));refine AC (AE (J (Ay Z Z EM Z Z Z) (J (As (s) Z Z) (fZ Z Z (J (As (b) Z Z) (fZ Z Z (J (Dc Z Z Z) (J (Dc Z Z Z) ?_))))))));refine AB Z Z (AB Z Z (AD (AC (AE (J (Ay Z Z EM Z Z Z) (J (As (s) Z Z) (fZ Z Z (J (As (a) Z Z) ?_))))))));refine fZ Z Z (J (Dc Z Z Z) (J (Dc Z Z Z) (V (By 7 P3 Z Z Z Z) (V (B3 Z Z Z Z Z Z Z YT) (AB Z Z (AD (AC (AE ?_))))))));refine J (Ay Z Z EM Z Z Z) (J (As (y) Z Z) (AB Z Z (AD (AC (AC (AE (fZ Z Z (J (GF Z Z Z) ?_))))))));refine AD (Bx Z (Z) (AE (J (Ay Z Z EM Z Z Z) (fZ Z Z (J (As (z) Z Z) (AB Z Z (AD (AC ?_))))))));refine AC (AE (fZ Z Z (fZ Z Z (J (Cw Z Z Z) (fZ Z Z (Dr 47 Z (Z) (AQ Z Z Z (fZ Z Z ?_))))))));refine AQ Z Z Z (fZ Z Z (AQ Z Z Z (J (Cw Z Z Z) (J (Bk Z Z Z Z) (AD (Cm Z (Z) (AX (AC ?_))))))));refine AC (AE (fZ Z Z (J (Cw Z Z Z) (AD (Cm Z (Z) (AX (AC (CZ [[],[],[],[1,2],[0,1,2,3],rg 5,rg 6,rg 7,rg 6,rg 6,rg 10,rg 11,rg 12,rg 13] mixed Z ?_))))))));refine CG (Av 5 Z Z (Au [2] Z Z (λ_=>Ae (Ay Z Z EM Z Z Z)) (Av 1 Z Z (AU [68,69] Z (As (u) Z Z) (CB 4 Z Z Z (Ad 5 Z Z (J (As (C) Z Z) (AD ⟨Z,?_⟩))))))));refine Ad 6 Z Z (fZ Z Z (Et 72 Z (Z) (AD ⟨Z,?_⟩)));refine CG ?_;refine Au [7,72] Z Z (λ_=>Ck Z Z Z (Ay Z Z Bl Z Z Z)) (Ao [73,72] [] Z Z (λ_=>Ck Z Z Z (As (w) Z Z)) (Au [2,72] Z Z (λ_=>Ck Z Z Z (Ay Z Z EM Z Z Z)) (Ao [1,72] [] Z Z (λ_=>Ck Z Z Z (P0 Z Z)) (CB 10 Z Z Z (Ad 11 Z Z (AQ Z Z Z (J (As (t) Z Z) (AD ⟨Z,?_⟩))))))));refine Ad 12 Z Z (AQ Z Z Z (J (As (k) Z Z) (AD ⟨Z,?_⟩)));refine Ad 13 Z Z (J (B5 Z Z Z Z) (AD ⟨Z,?_⟩));refine Ad 14 Z Z (AB Z Z (AD ⟨Z,?_⟩));refine CM (A4 ?_);exact ⟨_,[],_,A2 Z,Z,Z,Z,Z⟩
   .have b:=eM p S c.b (by omega) (by omega) j;have a:=RL p S c.b (by omega) (by omega) j
    by_cases g:Az p=0
    have f:CX p S=KG (p.it.map AI.id) S:=θ (by omega);rw [<-f] at z;rw [g] at y;refine At func8 Z Z ntmps8 Z Z Z λF c=>(AC ?_);refine AE (V (Bo 1 Z Z Z Z Z Z Z) (AB Z Z (AD (AC (AC (AE (J (As (o) Z Z) (J (Mp Z Z) ?_))))))));refine fZ Z Z (Dr 12 Z (Z) (AQ Z Z Z (J (Ay Z Z EM Z Z Z) (AQ Z Z Z (J (As (l) Z Z) (AQ Z Z Z (J (Mp Z Z) (J (Bk Z Z Z Z) ?_))))))));refine fZ Z Z (Dr 17 Z (Z) (AQ Z Z Z (fZ Z Z (AQ Z Z Z (J (Ba Z ch Z) (AQ Z Z Z (J (HF Z Z Z) (J (Bk Z Z Z Z) ?_))))))));refine AD (Cm Z (gV (by omega)) (AX (AC (AE (J (Ay Z Z EM Z Z Z) (J (As (s) Z Z) (fZ Z Z (J (As (b) Z Z) ?_))))))));refine fZ Z Z (J (Dc Z Z Z) (J (Dc Z Z Z) (AB Z Z (AB Z Z (AD (AC (AE (J (Ay Z Z EM Z Z Z) ?_))))))));refine J (As (s) Z Z) (fZ Z Z (J (As (a) Z Z) (fZ Z Z (J (Dc Z Z Z) (J (Dc Z Z Z) (V (By 7 P3 Z Z Z Z) (V (B3 Z Z Z Z Z Z Z YT) (AB Z Z ?_))))))));refine AD (AC (AE (J (Ay Z Z EM Z Z Z) (J (As (y) Z Z) (AB Z Z (AD (AC (AC ?_))))))));refine AE (fZ Z Z (J (GF Z Z Z) (AD (Bx Z (Z) (AE (J (Ay Z Z EM Z Z Z) (fZ Z Z (J (As (z) Z Z) ?_))))))));refine AB Z Z (AD (AC (AC (AE (fZ Z Z (fZ Z Z (J (Cw Z Z Z) (fZ Z Z ?_))))))));refine Dr 47 Z (by simp) (AQ Z Z Z (fZ Z Z (AQ Z Z Z (fZ Z Z (AQ Z Z Z (J (Cw Z Z Z) (J (Bk Z Z Z Z) (AD ?_))))))));refine Cm Z (by simp) (AX (AC (AC (AE (fZ Z Z (J (Cw Z Z Z) (AD (Bx Z (gQ j) ?_))))))))
    rotate_left
    have f:CX p S=Az p:=ϱ g;rw [f] at b a;refine At func8 Z Z ntmps8 Z Z Z λF c=>(AC (AE (V (Bo 1 Z Z Z Z Z Z Z) (AB Z Z (AD ?_)))));refine AC (AC (AE (J (As (o) Z Z) (J (Mp Z Z) (fZ Z Z (Dr 12 Z (Z) (AQ Z Z Z (J (Ay Z Z EM Z Z Z) ?_))))))));refine AQ Z Z Z (J (As (l) Z Z) (AQ Z Z Z (J (Mp Z Z) (J (Bk Z Z Z Z) (fZ Z Z (Dr 17 Z (Z) (AQ Z Z Z (fZ Z Z ?_))))))));refine AQ Z Z Z (J (Ba Z ch Z) (AQ Z Z Z (J (HF Z Z Z) (J (Bk Z Z Z Z) (AD (Cm Z (gV (by omega)) (AX (AC ?_))))))));refine AE (J (Ay Z Z EM Z Z Z) (J (As (s) Z Z) (fZ Z Z (J (As (b) Z Z) (fZ Z Z (J (Dc Z Z Z) (J (Dc Z Z Z) (AB Z Z ?_))))))));refine AB Z Z (AD (AC (AE (J (Ay Z Z EM Z Z Z) (J (As (s) Z Z) (fZ Z Z (J (As (a) Z Z) (fZ Z Z ?_))))))));refine J (Dc Z Z Z) (J (Dc Z Z Z) (V (By 7 P3 Z Z Z Z) (V (B3 Z Z Z Z Z Z Z YT) (AB Z Z (AD (AC (AE (J (Ay Z Z EM Z Z Z) ?_))))))));refine J (As (y) Z Z) (AB Z Z (AD (AC (AC (AE (fZ Z Z (J (GF Z Z Z) (AD ?_))))))));refine Cm Z (gV g) (AX (AC (AC (AE (fZ Z Z (fZ Z Z (J (Cw Z Z Z) (fZ Z Z ?_))))))));refine Dr 47 Z (by simp) (AQ Z Z Z (fZ Z Z (AQ Z Z Z (fZ Z Z (AQ Z Z Z (J (Cw Z Z Z) (J (Bk Z Z Z Z) (AD ?_))))))));refine Cm Z (by simp) (AX (AC (AC (AE (fZ Z Z (J (Cw Z Z Z) (AD (Bx Z (gQ g) ?_))))))))
    all_goals
     refine AC (AE (fZ Z Z (J (JZ Z Z ea Z) (J (GF Z Z Z) (fZ Z Z (Et 57 Z (Z) (AQ Z Z Z (J (AN Z DA Z Z Z) ?_))))))));refine AQ Z Z Z (J (AP Z Z Z JV Z) (AQ Z Z Z (J (JZ Z Z cl Z) (AQ Z Z Z (J (AN Z Dx Z Z Z) (AQ Z Z Z (J (AP Z Z Z ON Z) (AQ Z Z Z ?_))))))));refine J (JZ Z Z fU Z) (AQ Z Z Z (J (Al Z Z (Z) Z) (AQ Z Z Z (J (GF Z Z Z) (J (B5 Z Z Z Z) (AB Z Z (AD (A4 ?_))))))));exact ⟨_,[],_,A2 Z,Z,Z,Z,Z⟩
  .have N:=A;refine At func8 Z Z ntmps8 Z Z Z λF c=>?_;refine AC (AE (V (Bo 1 Z Z Z Z Z Z Z) (AB Z Z (AD (AC (AC (AE (J (As (o) Z Z) ?_))))))));refine J (Mp Z Z) (fZ Z Z (Dr 12 Z (Z) (AQ Z Z Z (J (Ay Z Z EM Z Z Z) (AQ Z Z Z (J (As (l) Z Z) (AQ Z Z Z (J (Mp Z Z) ?_))))))));refine J (Bk Z Z Z Z) (fZ Z Z (Dr 17 Z (Z) (AQ Z Z Z (fZ Z Z (AQ Z Z Z (J (Ba Z ch Z) (AQ Z Z Z (J (HF Z Z Z) ?_))))))));refine J (Bk Z Z Z Z) (AD (Bx Z (gQ (by omega)) (AC (AE (J (As (o) Z Z) (AB Z Z (AD (A4 ?_))))))));exact ⟨_,[],_,A2 Z,Z,Z,Z,Z⟩
 .rw [gV r] at l;refine At func8 Z Z ntmps8 Z Z Z λF c=>(AC (AE (V (Bo 1 Z Z Z Z Z Z Z) (AB Z Z (AD (AC ?_))))));refine AC (AE (J (As (o) Z Z) (J (Mp Z Z) (fZ Z Z (Dr 12 Z (Z) (AQ Z Z Z (J (Ay Z Z EM Z Z Z) (AQ Z Z Z ?_))))))));refine J (As (l) Z Z) (AQ Z Z Z (J (Mp Z Z) (J (Bk Z Z Z Z) (fZ Z Z (Et 17 Z (Z) (AL Z Z Z Z (AL Z Z Z Z (AL Z Z Z Z ?_))))))));refine J (B5 Z Z Z Z) (AD (Bx Z Z (AC (AE (J (As (o) Z Z) (AB Z Z (AD (A4 ?_))))))));exact ⟨_,[],_,A2 Z,Z,Z,Z,Z⟩
end Go.Proofs.YteifpcnphnhaoaaGreat
namespace Go.Proofs.YteifpcnphnhaoaaGreat
open Go.ChangeShapes Go.WideShapes Go.ChangeAt Go.RowKit
set_option maxRecDepth 100000 in
theorem gridlockParts_lifted (I:Os) (c:I.Started) (H:Type) (enc:TypeId×Value ->H):
  ReturnsInHanded {} Tryz.checked I 8 .any (Rows.gridlockPartsSpec.pre6 enc prog Tryz.f8 Rows.gridlockPartsRow.domain false) (Rows.gridlockPartsSpec.post enc prog Tryz.f8 false true false false):=by
 refine returnsInHanded_of_change_sized (C:=Tryz.checked) Tryz.own c (by kernel_rfl) func8
  (ChangeSpec.witness6 (enc:=enc) (C:=Tryz.checked) false ⟨#[], #[.agg #[.slice none 0 0,.slice none 0 0],.slice none 0 0],[]⟩ 8 (by kernel_rfl) (by kernel_rfl) (by kernel_rfl) (by kernel_rfl)) ?_
 intro W u w T gs A g J _ B _;have s:=J;obtain ⟨p,q,E,hV,rfl,_,_⟩:=J;have o:∀x∈p++q,x.block<W.heap.size:=λx h=>s.lt x h;have K:DataW.TrodAll enc prog W 0 (λ_=>true) true Tryz.f8.params.toList w.toList T p:=E;rw [Tryz.params8] at K;obtain ⟨G,y,d0,d1,p0,p1,rfl,rfl,rfl,Q,P⟩:=trodAll_two K;obtain ⟨rfl,rfl⟩:=trodVars_none hV;have k:∀n∈DataW.weightsEach prog ([25,28]:List TypeId) ([d0,d1]),n<=reachBytes:=λn l=>jS (jP.1 B n (by rw [Tryz.params8];exact l));have f:∀(j:Nat) t v,Tryz.f8.params[j]? =some t ->(#[G,y]:Array Value)[j]? =some v ->Value.okWide prog W .any u t v:=g;rw [Tryz.params8] at f;obtain ⟨n0,S⟩:=Q;obtain ⟨F,rfl,_⟩:=okWide_struct underlying25 (f 0 25 G Z Z);obtain ⟨V,Y,_,M⟩:=(u4) _ _ _ S (λx h=>o x (by simp [h])) (λn l=>k n (DataW.weights_mem_each (j:=0) (t:=25) Z Z n l));obtain ⟨n1,R⟩:=P;have D:y.oneCell'=true:=by obtain ⟨_,_,_,e⟩:=okWide_slice ch (f 1 28 y Z Z);rw [e];rfl
 obtain ⟨U,X,_,L⟩:=(Lj ch (by kernel_rfl) (by omega) (b:=8) (by kernel_rfl) (Wx underlying3)) _ _ _ R (λx h=>o x (by simp [h])) (λn l=>k n (DataW.weights_mem_each (j:=1) (t:=28) Z Z n l));refine (ZK (lZ V U) (vs:=[.agg F,y]) Z (λi a v r z=>?_)).mono λe W' ⟨N,O⟩=>?_
 .rcases i with _ | _ | i
  .simp at r z;subst r z;exact Uq.argS Z M
  .simp at r z;subst r z;exact Uq.arg1 Z Z D L
  .simp at r
 subst N;exact ⟨_,Z,cu (tb:=4) Tryz.laidOut (by kernel_rfl) Z Z underlying4 s ⟨Z,Z,Z⟩ O⟩
theorem vT:(Rows.gridlockPartsRow.inPlace==prog.inPlace 8)=true:=by kernel_rfl
theorem vS:(Rows.gridlockPartsRow.unfollowed==prog.unfollowed 8)=true:=by kernel_rfl
theorem vR:(Rows.gridlockPartsRow.recurses==prog.recurses 8)=true:=by kernel_rfl
theorem vQ:(Rows.gridlockPartsRow.named==prog.varsNamed 8)=true:=by kernel_rfl
theorem vP:joinedFacts prog 8 Tryz.f8 Rows.gridlockPartsSpec Rows.gridlockPartsRow=true:=by
 unfold joinedFacts;rw [vT,vS,vR,vQ]
 kernel_rfl
theorem gridlockParts_holds:Rows.GridlockPartsSaid:=
 OpenClaim.holds_of_wide 8 Tryz.f8 Z Z Z Z Z Z Z ⟨Z,Z,Z,Z,Z⟩ Z Z Z Z Z (by kernel_rfl) func8 vP
  (jS (by kernel_rfl)) (by unfold Func.isWrapper;first | (rw [ϱ (by decide+kernel)];kernel_rfl) | (rw [θ (by decide+kernel)];exact ⟨Z,Z⟩))
  (λc a H b _=>gridlockParts_lifted c a H b)
#print axioms gridlockParts_holds
end Go.Proofs.YteifpcnphnhaoaaGreat
