/- Proved here: gridlockIndependent_holds, the given statement Rows.GridlockIndependentSaid: the law girolaw32.GridlockIndependent returns true and does not panic, at every input that the statement speaks of; no condition beyond the statement. -/
/- 'girolaw32.GridlockIndependent': for every input the law returns true, and each argument reads behind the call as it read before. No condition. -/
import Derived.Test.YteifpcnphnhaoaaGreatMg27
open Go.Proofs.Tryz
namespace Go.Proofs.YteifpcnphnhaoaaGreat
open Go.RowKit Go.Shelf
theorem MB {p:ee} (h:CG p) (S:List Int):CG (ei p S):=by
 obtain ⟨g,f,c⟩:=h;refine ⟨by unfold ei;show (List.map _ _).length<=30;rw [ψ];exact fO (gM _ _) g,fO (gM _ _) f,λi b=>?_⟩;obtain ⟨j,a,rfl⟩:=κ.1 b;have:=c j (Γ.1 a).1;exact ⟨this.1,this.2.1,fO (ol S j.af) this.2.2⟩
theorem Xi {T:List (List Int)} (f:List Int ->Nat) {i:Nat} (h:i<T.length):((T.take (i+1)).map f).sum=((T.take i).map f).sum+f T[i]:=by
 rw [χ h,fU,i6];simp
theorem WE (T:List (List Int)) (f:List Int ->Nat) (i:Nat):((T.take i).map f).sum<=(T.map f).sum:=by grind [jH]
set_option maxRecDepth 100000 in
set_option maxHeartbeats 4000000 in
theorem kd (p:ee):AK prog 9 [.d (Bf p)] (.raw (.bool true)):=by
 have hk:=Ya;have P:=jm p
 by_cases K:tD p
 .rw [Υ K] at P;have f:=lI K;have g1:=K.1;have g2:=K.2.1;have c1:=sH p K
  by_cases g:A6 p=0
  .have l:=OT p f g;have hll:=IS g;have hgl:=Pj f;have X:=qW g;have C:=F1 p f.b;have hO:ea p=eX p.it:=ϱ g
   obtain ⟨A,hA⟩:∃x,(ea p).map eR.id=x:=⟨_,Z⟩
   have v:A.Nodup:=hA▸DW g;have o:∀y,y∈A↔y∈p.it.map eR.id:=λy=>by rw [<-hA,hO];exact ((I9 p.it).map eR.id).mem_iff
   have hAl:A.length<=12:=by rw [<-hA,ψ,hO,jO];exact g1
   rw [hA] at C;have hco:=dY p A f (by omega) (KN g v λx L=>(o x).1 L) g v;have w:=dX g f (S:=A) (λy s=>(o y).2 s) (λc _=>MB f c) v λy s=>(o y).1 s;have U:=(MG g v λy s=>(o y).1 s).el;have R:=(MG g X λy s=>mG g s).el;have h:=λ{c:List Int} (hc:c∈ey (er p) (ek p (eU p)))=>VN g f hc (MB f c)
   have hin:∀c∈ey (er p) (ek p A),∀y∈eU (ei p c),y∈eU p:=λc hc y s=>
    ((NY g f (MB f c) (λa ha b hb h1 h2=>OH g hc ha hb h1 ((o _).2 (ie hb)) h2) y).1 s).1
   have z:∀c:List Int,c.Nodup ->c.length<=p.it.length ->(∀x∈c,x∈p.it.map eR.id) ->AK prog 34 [.d (Bf p),.d (JL c)] (.tup [Bf (ei p c),AF 0]):=λc h1 h2 h3=>
    Uq p c f (by omega) (KN g h1 h3) g h1
   have D:∀c:List Int,AK prog 39 [.d (Bf (ei p c))] (.tup [JL (eU (ei p c)),AF 0]):=λc=>Gf _ (MB f c) (IL g c);have M:=Tf (er p) (ek p (eU p));have N:=Tf (er p) (ek p A);have hOL:=OC p (eU p);have hOA:=OC p A
   obtain ⟨r,hR3⟩:∃x,ey (er p) (ek p (eU p))=x:=⟨_,Z⟩
   obtain ⟨R4,hR4⟩:∃x,iS (er p) (gi p)=x:=⟨_,Z⟩
   obtain ⟨B,hB⟩:∃x,iT p=x:=⟨_,Z⟩
   obtain ⟨T,hT⟩:∃x,ey (er p) (ek p A)=x:=⟨_,Z⟩
   unfold iO at l;rw [hR3,hR4,hB] at l;rw [hR3] at R h M;rw [hT] at hco w U hin N;refine As func9 Z Z ntmps9 Z Z Z λF f=>(AC ?_);refine AE (V (Bz 1 Z Z Z Z Z Z Z) (AB Z Z (AD (AC (AC (AE (J (BT (hk) Z Z) (J (OZ Z Z) ?_))))))));refine dd Z Z (It 22 Z (Z) (Ad Z Z Z (J (BE Z Z aX Z Z Z) (Ad Z Z Z (J (BT (P) Z Z) (Ad Z Z Z (J (OZ Z Z) (J (EA Z Z Z Z) ?_))))))));refine AD (D3 Z (Z) (AZ (AC (AE (J (BE Z Z aX Z Z Z) (J (BT (c1) Z Z) (V (Bn 3 QJ Z Z Z Z) (V (B1 Z Z Z Z Z Z Z Xe) ?_))))))));refine AD (AC (AE (J (BE Z Z BM Z Z Z) (J (BT (l) Z Z) (dd Z Z (J (C6 Z Z Z) (J (C6 Z Z Z) (V (Bn 4 Ra Z Z Z Z) ?_))))))));refine V (B1 Z Z Z Z Z Z Z Zm) (AB Z Z (AD (AC (AC (AE (dd Z Z (J (D7 Z Z Z) (AD ?_))))))));refine D3 Z (Z) (AZ (AC (AC (AE (AB Z Z (AD (A0 (BX (α:=Nat) (λk=>⟨133,[(3,(.ptr 3 0 0)),(4,(.ptr 4 0 0)),(6,(.d (AL k)))],[(3,[.blk 39 [.d (.sl none (p.ro.map Bt)),.d (.sl none (p.it.map Af))]]),(4,[.blk 32 [.d (JL (eU p)),.d (JL (CL p)),.d (Qc r),.d (Qc R4),.d (.sl none (B.map nT))]])]⟩) (λk=>k<=r.length) (λk=>r.length - k) (0) (υ _) (AY f [3,4] Z Z ⟨Z,Z,Z,trivial⟩) ?_))))))));rintro k hk0;refine AC ?_;refine AC (AE (dd Z Z (J (AU Z Nw Z Z Z) (J (A2 Z Z Z bT Z) (J (Ii Z (ψ ..) No Z) (J (BN Z Z Z) (AD (Ac Z (λh41=>?_) (λh41=>?_)))))))))
   .refine AZ (AC (A0 (AC ?_)));have t:k<r.length:=Ba h41;obtain ⟨d1,d2,d3⟩:=R _ (ξ t);have H:=z _ d1 d2 λx L=>by obtain ⟨_,a,ha,e⟩:=d3 x L;exact κ.2 ⟨a,ha,e⟩
    have j:=D r[k];have hls:=h (ξ t);rw [hls] at j;have Y:=s7 r[k] (by omega);refine DB [[],[],[1],[],[1,2,3],[1,2,3,4],rg 6,rg 7,rg 8,rg 8,[],[0,1,2,3,4,5,6,7,8,10],rg 12] mixed Z (DP (Az [3] Z Z (λ_=>A5 (BE Z Z BM Z Z Z)) (AQ [4] Z (AU Z Nw Z Z Z) (Az [46] Z Z (λ_=>A5 (A2 Z Z Z bT Z)) (Av 6 Z Z (AQ [47,48] Z (Bh (k) Z Z (Z) (Ab t) No Z CZ Z) (AQ [49] Z (D2 Z Z BG Z) (AQ [45,50] Z (BT (H) Z Z) ?_))))))));refine Av 51 Z Z (AQ [44] Z (C6 Z Z Z) (AQ [44] Z (C6 Z Z Z) (Fp [] [7] [(7,_)] Z Z (λ_=>Fs (Bn 7 QJ Z Z Z Z)) (.inr ⟨7,_,Z,Z,Z,Z,Z⟩) Z Z Z Z Z (Fp [7,52] [7] [] Z Z (λ_=>Fs (B1 Z Z Z Z Z Z Z Xe)) (.inl ⟨Z,Z⟩) Z Z Z Z Z (Cg 12 Z Z Z (Ag 13 Z Z (AB Z Z (AD ⟨Z,?_⟩))))))));refine Cr (AC (AE (J (BE Z Z BM Z Z Z) ?_)));refine J (BT (j) Z Z) (dd Z Z (J (C6 Z Z Z) (J (C6 Z Z Z) (AB Z Z (AB Z Z (AD (AC (AE ?_))))))));refine dd Z Z (J (D7 Z Z Z) (dd Z Z (It 61 Z (Z) (Ad Z Z Z (dd Z Z (Ad Z Z Z (J (D7 Z Z Z) (J (EA Z Z Z Z) ?_))))))));refine dd Z Z (It 65 Z (Z) (Ad Z Z Z (dd Z Z (Ad Z Z Z (J (AU Z Nw Z Z Z) (Ad Z Z Z (J (A2 Z Z Z bT Z) (Ad Z Z Z ?_))))))));refine dd Z Z (Ad Z Z Z (J (Bh (k) Z Z (Z) (Ab t) No Z CZ Z) (Ad Z Z Z (J (D2 Z Z BG Z) (Ad Z Z Z (J (BT (Y) Z Z) (Ad Z Z Z (J (OZ Z Z) ?_))))))));refine J (EA Z Z Z Z) (AD (D3 Z (Z) (AZ (AE (dd Z Z (J (Ar Z Z (AO (k+1) (by omega)) Z) (AB Z Z (AD ?_))))))));exact ⟨k+1,(by show k+1<=_;omega),by show r.length - (k+1)<r.length - k;omega,AY f [3,4] Z (Z) ⟨Z,Z,Z,trivial⟩⟩
   .refine BC (AC ?_);refine DB [[],[],[1],[0,1,2],[0,1,2,3],rg 5,rg 5,rg 6,rg 8] mixed Z (DP (Az [3] Z Z (λ_=>A5 (BE Z Z BM Z Z Z)) (Az [3] Z Z (λ_=>A5 (BE Z Z BM Z Z Z)) (AQ [77] Z (BT (C) Z Z) (Cg 3 Z Z Z (Ag 4 Z Z (J (BT (hco) Z Z) (AD ⟨Z,?_⟩))))))));refine Ag 5 Z Z (dd Z Z (AD ⟨Z,?_⟩));refine DP (AQ [75] Z (C6 Z Z Z) (AQ [75] Z (C6 Z Z Z) (AQ [80] Z (GA Z Z) (Cg 8 Z Z Z (Ag 9 Z Z (AB Z Z (AD ⟨Z,?_⟩)))))));refine Cr (AC ?_);refine AC (AE (dd Z Z (J (D7 Z Z Z) (AD (D3 Z (Z) (AZ (AC (AE ?_))))))));refine AB Z Z (AD (AC (AC (AE (AB Z Z (AD (A0 (BX (α:=Nat) (λi=>⟨133,[(3,(.ptr 3 0 0)),(4,(.ptr 4 0 0)),(11,(.d (Qc T))),(13,(.d (AL ((T.take i).map λc=>(eU (ei p c)).length).sum))),(14,(.d (AL i)))],[(3,[.blk 39 [.d (.sl none (p.ro.map Bt)),.d (.sl none (p.it.map Af))]]),(4,[.blk 32 [.d (JL (eU p)),.d (JL (CL p)),.d (Qc r),.d (Qc R4),.d (.sl none (B.map nT))]])]⟩) (λi=>i<=T.length) (λi=>T.length - i) (0) (υ _) (AY f [3,4] Z Z ⟨Z,Z,Z,Z,Z,trivial⟩) ?_))))))));rintro i hi0;refine AC (AC (AE (dd Z Z (dd Z Z (J (Ii Z (ψ ..) No Z) (J (BN Z Z Z) (AD (Ac Z (λI=>?_) (λI=>?_)))))))))
    .refine AZ (AC (A0 (AC ?_)));have u:i<T.length:=Ba I;obtain ⟨d1,d2,d3⟩:=U _ (ξ u);have H:=z _ d1 d2 λx L=>by obtain ⟨_,a,ha,e⟩:=d3 x L;exact κ.2 ⟨a,ha,e⟩
     have j:=D T[i];have hsl:=WE T (λc=>(eU (ei p c)).length) i;have hsl2:=WE T (λc=>(eU (ei p c)).length) (i+1);have O:=Xi (λc=>(eU (ei p c)).length) u;have E:=hin _ (ξ u)
     obtain ⟨Q,hQ⟩:∃x,eU (ei p T[i])=x:=⟨_,Z⟩
     rw [hQ] at j O E;refine DB [[],[],[],[1,2],[1,2,3],rg 5,rg 6,rg 7,rg 7,[],[0,1,2,3,4,5,6,7,9],rg 11] mixed Z (DP (Az [3] Z Z (λ_=>A5 (BE Z Z BM Z Z Z)) (Av 11 Z Z (Av 14 Z Z (AQ [92,93] Z (Bh (i) Z Z (Z) (Ab u) No Z CZ Z) (AQ [94] Z (D2 Z Z BG Z) (AQ [91,95] Z (BT (H) Z Z) ?_)))))));refine Av 96 Z Z (AQ [90] Z (C6 Z Z Z) (AQ [90] Z (C6 Z Z Z) (Fp [] [15] [(15,_)] Z Z (λ_=>Fs (Bn 15 QJ Z Z Z Z)) (.inr ⟨15,_,Z,Z,Z,Z,Z⟩) Z Z Z Z Z (Fp [15,97] [15] [] Z Z (λ_=>Fs (B1 Z Z Z Z Z Z Z Xe)) (.inl ⟨Z,Z⟩) Z Z Z Z Z (Cg 11 Z Z Z (Ag 12 Z Z (AB Z Z (AD ⟨Z,?_⟩))))))));refine Cr (AC (AE (J (BE Z Z BM Z Z Z) (J (BT (j) Z Z) (dd Z Z (J (C6 Z Z Z) (J (C6 Z Z Z) ?_)))))));refine AB Z Z (AB Z Z (AD (AC (AC (AE (dd Z Z (J (D7 Z Z Z) (dd Z Z ?_))))))));refine It 106 Z (Z) (Ad Z Z Z (dd Z Z (Ad Z Z Z (J (D7 Z Z Z) (J (EA Z Z Z Z) (AD (D3 Z (Z) (AZ ?_))))))));refine AC (AE (dd Z Z (dd Z Z (J (Ii Z (ψ ..) E0 Z) (J (Ar Z Z (AO (((T.take i).map λc=>(eU (ei p c)).length).sum+Q.length) (by omega)) Z) (AB Z Z (AD (AC ?_))))))));rw [<-O];refine AE (AB Z Z (AD (A0 (BX (α:=Nat) (λm=>⟨133,[(3,(.ptr 3 0 0)),(4,(.ptr 4 0 0)),(11,(.d (Qc T))),(13,(.d (AL ((T.take (i+1)).map λc=>(eU (ei p c)).length).sum))),(14,(.d (AL i))),(17,(.d (JL Q))),(19,(.d (AL m)))],[(3,[.blk 39 [.d (.sl none (p.ro.map Bt)),.d (.sl none (p.it.map Af))]]),(4,[.blk 32 [.d (JL (eU p)),.d (JL (CL p)),.d (Qc r),.d (Qc R4),.d (.sl none (B.map nT))]])]⟩) (λm=>m<=Q.length) (λm=>Q.length - m) (0) (υ _) (AY f [3,4] Z Z ⟨Z,Z,Z,Z,Z,Z,Z,trivial⟩) ?_))));rintro m hm0;refine AC (AC (AE (dd Z Z (dd Z Z (J (Ii Z (ψ ..) E0 Z) (J (BN Z Z Z) (AD (Ac Z (λG=>?_) (λG=>?_)))))))))
     .refine AZ (AC (A0 (AC ?_)));have W:m<Q.length:=Ba G;have hct:=Yv (eU p) Q[m] (by omega);rw [uM X (E _ (ξ W))] at hct;refine DB [[],[0],[],[],[2,3],[2,3,4],rg 6,rg 7] mixed Z (DP (AQ [4] Z (AU Z gX Z Z Z) ?_));refine Az [120] Z Z (λ_=>A5 (A2 Z Z Z BG Z)) (Av 17 Z Z (Av 19 Z Z (AQ [122,123] Z (Bh (m) Z Z (Z) (Ab W) E0 Z BU Z) (AQ [124] Z (D2 Z Z Aw Z) (Cg 6 Z Z Z (Ag 7 Z Z (J (BT (hct) Z Z) (AD ⟨Z,?_⟩))))))));refine Ag 8 Z Z (J (D7 Z Z Z) (AD ⟨Z,?_⟩));refine Cr (D3 Z (Z) (AZ (AE (dd Z Z (J (Ar Z Z (AO (m+1) (by omega)) Z) (AB Z Z (AD ?_)))))));exact ⟨m+1,(by show m+1<=_;omega),by show Q.length - (m+1)<Q.length - m;omega,AY f [3,4] Z (Z) ⟨Z,Z,Z,Z,Z,Z,Z,trivial⟩⟩
     .refine BC (AE (dd Z Z (J (Ar Z Z (AO (i+1) (by omega)) Z) (AB Z Z (AD ?_)))));exact ⟨i+1,(by show i+1<=_;omega),by show T.length - (i+1)<T.length - i;omega,AY f [3,4] Z (Z) ⟨Z,Z,Z,Z,Z,trivial⟩⟩
    .refine BC (AC ?_);have hie:i=T.length:=by have:=I;omega
     refine AE (dd Z Z (J (AU Z gX Z Z Z) (J (A2 Z Z Z BG Z) (J (Ii Z (ψ ..) E0 Z) (J (Li Z Z Z) (AB Z Z (AD (A4 ?_))))))));exact ⟨_,[],_,A3 Z,Z,Z,by rw [hie,fw,w];simp,Z⟩
  .have l:=RQ p f g;refine As func9 Z Z ntmps9 Z Z Z λF f=>(AC (AE (V (Bz 1 Z Z Z Z Z Z Z) (AB Z Z (AD (AC (AC ?_)))))));refine AE (J (BT (hk) Z Z) (J (OZ Z Z) (dd Z Z (It 22 Z (Z) (Ad Z Z Z (J (BE Z Z aX Z Z Z) (Ad Z Z Z (J (BT (P) Z Z) ?_))))))));refine Ad Z Z Z (J (OZ Z Z) (J (EA Z Z Z Z) (AD (D3 Z (Z) (AZ (AC (AE (J (BE Z Z aX Z Z Z) ?_))))))));refine J (BT (c1) Z Z) (V (Bn 3 QJ Z Z Z Z) (V (B1 Z Z Z Z Z Z Z Xe) (AD (AC (AE (J (BE Z Z BM Z Z Z) (J (BT (l) Z Z) (dd Z Z ?_))))))));refine J (C6 Z Z Z) (J (C6 Z Z Z) (V (Bn 4 Ra Z Z Z Z) (V (B1 Z Z Z Z Z Z Z Zm) (AB Z Z (AD (AC (AC (AE ?_))))))));refine dd Z Z (J (D7 Z Z Z) (AD (DO Z (Υ g) (AC (AE (AB Z Z (AD (A4 ?_))))))));exact ⟨_,[],[],A3 Z,Z,Z,Z,Z⟩
 .rw [fb K] at P;refine As func9 Z Z ntmps9 Z Z Z λF f=>?_;refine AC (AE (V (Bz 1 Z Z Z Z Z Z Z) (AB Z Z (AD (AC (AC (AE (J (BT (hk) Z Z) ?_))))))));refine J (OZ Z Z) (dd Z Z (It 22 Z (Z) (Ad Z Z Z (J (BE Z Z aX Z Z Z) (Ad Z Z Z (J (BT (P) Z Z) (Ad Z Z Z (J (OZ Z Z) ?_))))))));refine J (EA Z Z Z Z) (AD (DO Z (Z) (AC (AE (J (BT (hk) Z Z) (AB Z Z (AD (A4 ?_))))))));exact ⟨_,[],[],A3 Z,Z,Z,Z,Z⟩
end Go.Proofs.YteifpcnphnhaoaaGreat
namespace Go.Proofs.YteifpcnphnhaoaaGreat
open Go.ChangeShapes Go.WideShapes Go.ChangeAt Go.RowKit
set_option maxRecDepth 100000 in
theorem gridlockIndependent_lifted (D:Os) (b:D.Started) (H:Type) (enc:TypeId×Value ->H):
  ReturnsInHanded {} Tryz.checked D 9 .any (Rows.gridlockIndependentSpec.pre6 enc prog Tryz.f9 Rows.gridlockIndependentRow.domain false) (Rows.gridlockIndependentSpec.post enc prog Tryz.f9 false true false false):=by
 refine returnsInHanded_of_change_sized (C:=Tryz.checked) Tryz.own b (by kernel_rfl) func9
  (ChangeSpec.witness6 (enc:=enc) (C:=Tryz.checked) false ⟨#[], #[.agg #[.slice none 0 0,.slice none 0 0]],[]⟩ 8 (by kernel_rfl) (by kernel_rfl) (by kernel_rfl) (by kernel_rfl)) ?_
 intro W h k N R l f F _ s _;have g:=F;obtain ⟨p,q,z,hV,rfl,_,_⟩:=F;have w:∀x∈p++q,x.block<W.heap.size:=λx o=>g.lt x o;have G:DataW.TrodAll enc prog W 0 (λ_=>true) true Tryz.f9.params.toList k.toList N p:=z;rw [Tryz.params9] at G;obtain ⟨B,d0,rfl,rfl,L⟩:=trodAll_one G;obtain ⟨rfl,rfl⟩:=trodVars_none hV;have r:∀n∈DataW.weightsEach prog ([25]:List TypeId) ([d0]),n<=reachBytes:=λn u=>hJ (iZ.1 s n (by rw [Tryz.params9];exact u));have c:∀(j:Nat) t v,Tryz.f9.params[j]? =some t ->(#[B]:Array Value)[j]? =some v ->Value.okWide prog W .any h t v:=f;rw [Tryz.params9] at c;obtain ⟨Q,M⟩:=L;obtain ⟨A,rfl,_⟩:=okWide_struct underlying25 (c 0 25 B Z Z);obtain ⟨O,P,_,I⟩:=(tu) _ _ _ M (λx o=>w x (by simp [o])) (λn u=>r n (DataW.weights_mem_each (j:=0) (t:=25) Z Z n u));refine (Y4 (kd O) (vs:=[.agg A]) Z (λi a v y E=>?_)).mono λe S ⟨J,K⟩=>?_
 .rcases i with _ | i
  .simp at y E;subst y E;exact Vl.argS Z I
  .simp at y
 subst J;exact ⟨_,Z,cM (tb:=4) Tryz.laidOut (by kernel_rfl) Z Z underlying4 g ⟨Z,Z,Z⟩ K⟩
theorem um:(Rows.gridlockIndependentRow.inPlace==prog.inPlace 9)=true:=by kernel_rfl
theorem ul:(Rows.gridlockIndependentRow.unfollowed==prog.unfollowed 9)=true:=by kernel_rfl
theorem uk:(Rows.gridlockIndependentRow.recurses==prog.recurses 9)=true:=by kernel_rfl
theorem uj:(Rows.gridlockIndependentRow.named==prog.varsNamed 9)=true:=by kernel_rfl
theorem ui:joinedFacts prog 9 Tryz.f9 Rows.gridlockIndependentSpec Rows.gridlockIndependentRow=true:=by
 unfold joinedFacts;rw [um,ul,uk,uj]
 kernel_rfl
theorem gridlockIndependent_holds:Rows.GridlockIndependentSaid:=
 OpenClaim.holds_of_wide 9 Tryz.f9 Z Z Z Z Z Z Z ⟨Z,Z,Z,Z,Z⟩ Z Z Z Z Z (by kernel_rfl) func9 ui
  (hJ (by kernel_rfl)) (by unfold Func.isWrapper;first | (rw [ϱ (by decide+kernel)];kernel_rfl) | (rw [θ (by decide+kernel)];exact ⟨Z,Z⟩))
  (λc a H b _=>gridlockIndependent_lifted c a H b)
#print axioms gridlockIndependent_holds
end Go.Proofs.YteifpcnphnhaoaaGreat
