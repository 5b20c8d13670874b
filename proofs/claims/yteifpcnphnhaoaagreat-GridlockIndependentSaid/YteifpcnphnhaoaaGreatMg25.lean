import Derived.Test.YteifpcnphnhaoaaGreatMg24
open Go.Proofs.Tryz
set_option maxHeartbeats 1000000
namespace Go.Proofs.YteifpcnphnhaoaaGreat
open Go.RowKit
variable {a:Nat ->List Nat} {c:Nat} {g:List (List Nat)} {f:List (List Int)} {h:List (Nat×Nat)} {S:TS} {i:Option Nat} {j:Nat} {k:Nat ->Nat} {o s t:Nat} {u:List Nat} {w:Nat ->Nat} {x:List (Nat×Nat)} {K:Nat ->Nat} {y:Nat ->Int} {z:List (Nat×Nat)} {A:List Nat} {B:Nat} {C:Nat ->Nat} {E F:Nat}
set_option maxRecDepth 100000
structure CN (n:Nat) (suc:Nat ->List Nat) (no:Nat ->Nat) (cnt:Nat):Prop where
 lt:∀v,v<n ->no v<cnt
 scc:∀i j,i<n ->j<n ->(no i=no j↔Rh suc i j/\Rh suc j i)
 use:∀c,c<cnt ->∃v,v<n/\no v=c
 top:∀u v,u<n ->v<n ->v∈suc u ->no u<=no v
 mn:∀c,c<cnt ->∀i,i<n ->c<=no i ->(∀k,k<n ->c<=no k ->Rh suc k i ->Rh suc i k) ->∃j,j<n/\no j=c/\j<=i
theorem CN.rh {cnt:Nat} (h:CN c a k cnt) (i:∀t,t<c ->∀y∈a t,y<c) (g:F<c) (j:Rh a F t):t<c/\k F<=k t:=by
 induction j with
 | refl=>exact ⟨g,ϖ _⟩
 | step _ e b=>
  have f:=i _ b.1 _ e;exact ⟨f,fO b.2 (h.top _ _ b.1 f e)⟩
theorem CN.crit {cnt:Nat} (h:CN c a k cnt) (g:∀v,v<c ->∀y∈a v,y<c) (o:j<c) (s:k j=E):∀b,b<c ->E<=k b ->Rh a b j ->Rh a j b:=λb f r l=>by
 have:=(h.rh g f l).2;exact ((h.scc j b o f).1 (by omega)).1
theorem nP (p:Nat ->Prop):∀(m x:Nat),p x ->x<=m ->∃y,p y/\∀z,p z ->y<=z:=by
 intro m
 induction m with
 | zero=>intro x a c;exact ⟨x,a,λz _=>by omega⟩
 | succ m b=>
  grind
theorem OK {n:Nat} {g:Nat ->List Nat} {t a:Nat ->Nat} {cnt f:Nat} (h:CN n g t cnt) (B:CN n g a f) (E:∀v,v<n ->∀y∈g v,y<n):
  ∀c,c<=cnt ->c<=f ->∀v,v<n ->∀d,d<c ->(t v=d↔a v=d)
 | 0,_,_,v,_,d,O=>by omega
 | c+1,R,Q,v,s,d,O=>by
  have C:=OK h B E c (by omega) (by omega)
  by_cases e:d<c
  .exact C v s d e
  .have e:d=c:=by omega
   subst e
   have b:∀v,v<n ->(d<=t v↔d<=a v):=λv s=>by
    constructor
    .intro P;rcases Nat.lt_or_ge (a v) d with r | r
     .have:=(C v s _ r).2 rfl;omega
     .exact r
    .intro P;rcases Nat.lt_or_ge (t v) d with r | r
     .have:=(C v s _ r).1 rfl;omega
     .exact r
   obtain ⟨x,M,D⟩:=h.use d (by omega);obtain ⟨i,⟨A,l⟩,H⟩:=nP (λy=>y<n/\t y=d) x x ⟨M,D⟩ (ϖ _);obtain ⟨j,G,w,N⟩:=B.mn d (by omega) i A ((b i A).1 (by omega)) λk u o F=>h.crit E A l k u ((b k u).2 o) F;obtain ⟨L,J,z,K⟩:=h.mn d (by omega) j G ((b j G).2 (by omega)) λk u o F=>B.crit E G w k u ((b k u).1 o) F;have:=H L ⟨J,z⟩;have I:i=j:=by omega
   subst I;rw [<-l,h.scc v i s A,l,<-w,B.scc v i s A]
theorem l0 {cnt b:Nat} (h:CN c a k cnt) (f:CN c a C b) (o:∀v,v<c ->∀y∈a v,y<c):cnt=b/\∀v,v<c ->k v=C v:=by
 have g:∀{k C:Nat ->Nat} {cnt b:Nat},CN c a k cnt ->CN c a C b ->cnt<=b:=by
  intro k C cnt b h f;rcases Nat.lt_or_ge b cnt with j | l
  .obtain ⟨v,i,r⟩:=h.use b j;have s:=f.lt v i;have:=(OK h f o b (by omega) (ϖ _) v i (C v) s).2 rfl;omega
  .exact l
 have e:cnt=b:=Nat.le_antisymm (g h f) (g f h);subst e;exact ⟨Z,λv i=>((OK h f o cnt (ϖ _) (ϖ _) v i (C v) (f.lt v i)).2 Z)⟩
theorem RD {cnt x:Nat} (l:E<cnt):x∈eW (KI g w cnt) E↔∃a,a<g.length/\w a=E/\∃y∈eW g a,w a≠w y/\w y=x:=by
 rw [KI,TK l];unfold MQ XB;rw [List.take_zero];simp only [List.filter_nil,List.map_nil,ite_self,gN,im,Θ]
 constructor
 .rintro ⟨a,k,i⟩
  split at i
  .rename_i e
   obtain ⟨y,h,rfl⟩:=κ.1 i;obtain ⟨f,b⟩:=Γ.1 h;exact ⟨a,k,e,y,f,hJ b,Z⟩
  .cases i
 .rintro ⟨a,k,e,y,h,j,rfl⟩;refine ⟨a,k,?_⟩;rw [ϱ e];exact κ.2 ⟨y,Γ.2 ⟨h,Υ j⟩,Z⟩
theorem W8 {a:List Nat} (b:a.Nodup):∀m,m<=a.length ->∀k,k<m ->DL a m (e9 a k)=k
 | 0,_,k,c=>by omega
 | m+1,g,k,c=>by
  unfold DL
  by_cases e:k=m
  .subst e;rw [KW]
  .rw [GY,W8 b m (by omega) k (by omega)];rw [Ov (by omega),Ov (by omega)];intro f;exact e ((List.getElem_inj b).1 f)
theorem lV (O:GB g) {cnt:Nat} (h:gH g.length (eW g) w cnt) {K:Nat ->Nat} {i:List Nat} (o:∀y,¬Cm (KI g w cnt) i y):∀c,c<cnt ->c∈i:=by
 let Rc:Nat ->Nat ->Prop:=λd c=>∃u v,u<g.length/\v<g.length/\w u=d/\w v=c/\Rh (eW g) u v
 have dec:∀c,DecidablePred λd=>Rc d c:=λc d=>Classical.propDecidable _
 let f:Nat ->Nat:=λc=>((List.range cnt).filter λd=> @decide (Rc d c) (dec c d)).length
 have C:∀k c,k<cnt ->c∈eW (KI g w cnt) k ->f k<f c:=by
  intro k c G j;obtain ⟨a,r,rfl,y,t,E,rfl⟩:=(RD G).1 j;have b:=O.suc r t
  have:=Ck (l:=w y::(List.range cnt).filter λd=> @decide (Rc d (w a)) (dec (w a) d)) (m:=(List.range cnt).filter λd=> @decide (Rc d (w y)) (dec (w y) d)) (i5.2 ⟨λo=>by
   obtain ⟨_,J⟩:=Γ.1 o;obtain ⟨u,v,B,A,M,L,D⟩:= @of_decide_eq_true _ (dec _ _) J;have Q:=(h.scc u y B b).1 M;have I:=(h.scc v a A r).1 L
   exact E ((h.scc a y r b).2 ⟨Rh.one t,Q.2.trans (D.trans I.1)⟩),List.nodup_range.filter _⟩) (λx z=>by
   rcases fP.1 z with rfl | z
   .exact Γ.2 ⟨Θ.2 (h.lt y b), @decide_eq_true _ (dec _ _) ⟨y,y,b,b,Z,Z,.refl y⟩⟩
   .obtain ⟨R,J⟩:=Γ.1 z;obtain ⟨u,v,B,A,M,L,D⟩:= @of_decide_eq_true _ (dec _ _) J;have I:=(h.scc v a A r).1 L
    exact Γ.2 ⟨R, @decide_eq_true _ (dec _ _) ⟨u,y,B,b,M,Z,D.trans (I.1.trans (Rh.one t))⟩⟩)
  grind
 have s:∀(m c:Nat),f c<=m ->c<cnt ->c∈i:=by
  intro m
  induction m with
  | zero=>
   intro c P j;refine Classical.byContradiction λF=>o c ⟨by rw [KI,UN];exact j,F,λk G _ H=>?_⟩
   grind [KI,UN]
  | succ m S=>
   intro c P j;refine Classical.byContradiction λF=>o c ⟨by rw [KI,UN];exact j,F,λk G N H=>?_⟩
   grind [KI,UN]
 exact λc j=>s (f c) c (ϖ _) j
theorem V9 (hg:GT g) {cnt:Nat} (h:gH g.length (eW g) w cnt):CN g.length (eW g) (λv=>fT g w cnt (w v)) cnt:=by
 obtain ⟨N,h2⟩:=Kj (KI g w cnt) (e9 (UW w g.length cnt));have V:gB (KI g w cnt) (e9 (UW w g.length cnt))=gj g w cnt:=rfl;rw [V] at N h2;have hM:∀c,fT g w cnt c=DL (gj g w cnt) (gj g w cnt).length c:=λ_=>rfl;have o:=lV hg.gb h (K:=e9 (UW w g.length cnt)) h2;obtain ⟨C,l⟩:=IV N;have z:(KI g w cnt).length=cnt:=by rw [KI,UN]
 rw [z] at l
 obtain ⟨b,A⟩:∃b,gj g w cnt=b:=⟨_,Z⟩
 rw [A] at N h2 o C l;simp only [A] at hM
 have hlen:b.length=cnt:=Nat.le_antisymm (by have:=Ck C (m:=List.range cnt) λx S=>Θ.2 (l x S);rwa [gI] at this)
  (by have:=Ck (List.nodup_range (n:=cnt)) (m:=b) λx S=>o x (Θ.1 S);rwa [gI] at this)
 have G:∀k,k<cnt ->fT g w cnt (e9 b k)=k:=λk s=>by rw [hM];exact W8 C _ (ϖ _) k (by omega)
 have f:∀c,c<cnt ->∃k,k<cnt/\e9 b k=c/\fT g w cnt c=k:=λc F=>by
  obtain ⟨k,s,rfl⟩:=iL.1 (o c F)
  grind [Ov]
 have J:∀c d,c<cnt ->c<=fT g w cnt d ->d<cnt ->d∉b.take c:=λc d F hcd hd hm=>by
  obtain ⟨k,s,e⟩:=iL.1 hm;rw [Ξ] at s;rw [List.getElem_take,<-Ov (by omega)] at e
  grind
 refine ⟨λv B=>?_,λi j r hj=>?_,λc F=>?_,λu v U B he=>?_,λc F i r E Y=>?_⟩
 .obtain ⟨k,s,_,e⟩:=f (w v) (h.lt v B);omega
 .rw [<-h.scc i j r hj]
  constructor
  .intro e;obtain ⟨k,_,O,e2⟩:=f (w i) (h.lt i r);obtain ⟨m,_,Q,e4⟩:=f (w j) (h.lt j hj);have e:fT g w cnt (w i)=fT g w cnt (w j):=e;rw [<-O,<-Q,show k=m by omega]
  .intro e;show fT g w cnt (w i)=fT g w cnt (w j);rw [e]
 .obtain ⟨v,B,e⟩:=h.use (e9 b c) (l _ (DZ (by omega)));exact ⟨v,B,by show fT g w cnt (w v)=c;rw [e];exact G c F⟩
 .show fT g w cnt (w u)<=fT g w cnt (w v)
  by_cases e:w u=w v
  .rw [e];exact ϖ _
  .obtain ⟨p,hp,O,e2⟩:=f (w v) (h.lt v B);have t:=(N p (by omega)).1;rw [O] at t;have D:w u∈b.take p:=Classical.byContradiction λhn=>t.2.2 (w u) (by rw [z];exact h.lt u U) hn ((RD (h.lt u U)).2 ⟨u,U,Z,v,he,e,Z⟩);obtain ⟨k,s,Q⟩:=iL.1 D;rw [Ξ] at s;rw [List.getElem_take,<-Ov (by omega)] at Q;rw [<-Q,G k (by omega),e2];omega
 .have E:c<=fT g w cnt (w i):=E
  have t:Cm (KI g w cnt) (b.take c) (w i):=by
   refine ⟨by rw [z];exact h.lt i r,J c _ F E (h.lt i r),λk s X D=>?_⟩;rw [z] at s;obtain ⟨a,P,rfl,y,hy,W,I⟩:=(RD s).1 D;have R:=hg.gb.suc P hy
   have hca:c<=fT g w cnt (w a):=by
    rcases Nat.lt_or_ge (fT g w cnt (w a)) c with hl | hl
    .obtain ⟨m,hm,O,e2⟩:=f (w a) (h.lt a P);exact (X (iL.2 ⟨m,by rw [Ξ];omega,by rw [List.getElem_take,<-Ov (by omega)];exact O⟩)).elim
    .exact hl
   have H:=(h.scc y i R r).1 I;have M:Rh (eW g) a i:=(Rh.one hy).trans H.1;have:=(h.scc a i P r).2 ⟨M,Y a P hca M⟩;exact W (by rw [this,I])
  have hK:=(N c (by omega)).2 _ t;have L:e9 b c<cnt:=l _ (DZ (by omega));rw [MJ L,MJ (h.lt i r)] at hK;obtain ⟨v,B,T⟩:=h.use _ L;obtain ⟨q1,q2,_⟩:=Hj w g.length g.length (ϖ _) (e9 b c) ⟨v,by omega,B,T⟩;obtain ⟨_,_,q3⟩:=Hj w g.length g.length (ϖ _) (w i) ⟨i,by omega,r,Z⟩;exact ⟨_,q2,by show fT g w cnt (w _)=c;rw [q1];exact G c F,fO hK (q3 i (by omega) r Z)⟩
abbrev Wq (l:List Int):D:= .sl none (l.map AF)
abbrev nN (g:List (List Int)):D:= .sl none (g.map Wq)
def K3 (g:List (List Int)) (i:Nat):Nat:=((g.take i).map List.length).sum
def ZJ (n:Nat) (l:List Int):Prop:=∃x∈l,¬(0<=x/\x<(n:Int))
instance (n:Nat) (l:List Int):Decidable (ZJ n l):=inferInstanceAs (Decidable (∃x∈l,¬(0<=x/\x<(n:Int))))
def Ts (g:List (List Int)):Int:=if 65536<g.length\/1048576<K3 g g.length then 8 else if ∃l∈g,ZJ g.length l then 2 else 0
theorem K0 (h:j<f.length):K3 f (j+1)=K3 f j+f[j].length:=by
 unfold K3;rw [χ h,fU,i6];simp
theorem Vq {g:List (List Int)} (h:∀l∈g,l.length<=2000000):∀i,i<=g.length ->K3 g i<=i*2000000
 | 0,_=>by simp [K3]
 | i+1,a=>by
  have:=Vq h i (by omega);have:=h g[i] (ξ (by omega));rw [K0 (by omega)];omega
theorem uJ {l:List Int} (h:s<l.length):(l.map AF)[s]? =some (AF l[s]):=Ab h
theorem nO (h:j<f.length):(f.map Wq)[j]? =some (Wq f[j]):=Ab h
theorem ss (h:65536<f.length\/1048576<K3 f f.length):(8:Int)=Ts f:=by unfold Ts;rw [ϱ h]
theorem su (b:¬65536<f.length) (a:¬1048576<K3 f f.length) (h:∃l∈f,ZJ f.length l):(2:Int)=Ts f:=by grind [Ts]
theorem sv (b:¬65536<f.length) (a:¬1048576<K3 f f.length) (h:¬∃l∈f,ZJ f.length l):(0:Int)=Ts f:=by grind [Ts]
theorem df (g:List (List Int)) (Q:g.length<=1000000) (w:∀l∈g,l.length<=2000000):AK prog 133 [.d (nN g)] (AF (Ts g)):=by
 refine As func133 Z Z ntmps133 Z Z Z λF U=>(AC (AE (AB Z Z (AD (AC (AE (AB Z Z (AD ?_))))))));refine AC (AC (AE (dd Z Z (J (Ii Z (ψ ..) Qs Z) (dd Z Z (AD (A0 (HD (α:=Nat) (λk=>⟨50,[(0,.d (nN g)),(3,(.d (AL (K3 g k)))),(10,(.d (nN g))),(11,(.d (AL g.length))),(12,(.d (AL k)))],[]⟩) (λk=>k<=g.length) (λk=>g.length - k) (0) (υ _) (eF ⟨Z,Z,Z,Z,Z,trivial⟩) ?_))))))));intro k R;refine AC (AE (J (BN Z Z Z) (AD (AC (Ac Z (λs=>?_) (λs=>?_))))))
 .refine AZ (AC (A0 (AC ?_)));have c:k<g.length:=Ba s;have P:=Vq w k (by omega);have B:=w _ (ξ c);have O:=K0 c;refine AE (J (Bh (k) Z Z (Z) (nO c) Qs Z CZ Z) (J (D2 Z Z BG Z) (AB Z Z (AD (AE (dd Z Z (dd Z Z ?_)))))));refine J (Ii Z (ψ ..) E0 Z) (J (Ar Z Z (Ω _ (by omega)) Z) (Oc 19 (.d (AL (K3 g (k+1)))) Z (eqv (fL AF (by omega))) (AB Z Z (AD (AE (J (Ar Z Z (Ω _ (by omega)) Z) (dd Z Z (AD ?_))))))));exact ⟨k+1,by omega,by omega,⟨Z,Z,λ_ _=>R8.get (l:=[(0,_),(3,_),(10,_),(11,_),(12,_)]) ⟨Z,Z,Z,Z,Z,trivial⟩⟩⟩
 .refine BC (AC (AC ?_));have E:k=g.length:=by have:=s;omega
  subst E;refine AE (dd Z Z (J (Ii Z (ψ ..) Qs Z) (J (Ot Z Z Z) (dd Z Z (Ij 24 Z (λM=>?_) (λM=>?_))))))
  .refine A9 Z Z Z Z ?_;refine A9 Z Z Z Z (J (Ff Z Z Z Z) (AD (DO Z Z (AC (AE (AB Z Z (AD (A4 ?_))))))));exact ⟨_,[],[],A3 Z,Z,Z,eqv (fL AF (ss (by omega))),Z⟩
  .refine Ad Z Z Z (dd Z Z (Ad Z Z Z (J (Ot Z Z Z) (J (EA Z Z Z Z) (AD (Ac Z (λL=>?_) (λL=>?_)))))))
   .refine AC (AE (AB Z Z (AD (A4 ?_))));exact ⟨_,[],[],A3 Z,Z,Z,eqv (fL AF (ss (by omega))),Z⟩
   .refine AZ (AC (AC ?_));have h:¬65536<g.length:=by omega
    have f:¬1048576<K3 g g.length:=by omega
    refine AE (dd Z Z (J (Ii Z (ψ ..) Qs Z) (dd Z Z (AD (A0 (HD (α:=Nat) (λi=>⟨50,[(0,.d (nN g)),(28,(.d (nN g))),(29,(.d (AL g.length))),(30,(.d (AL i)))],[]⟩) (λi=>i<=g.length/\∀l∈g.take i,¬ZJ g.length l) (λi=>g.length - i) (0) (⟨υ _,λl w=>by simp at w⟩) (eF ⟨Z,Z,Z,Z,trivial⟩) ?_))))));rintro i ⟨T,N⟩;refine AC (AE (J (BN Z Z Z) (AD (AC (Ac Z (λr=>?_) (λr=>?_))))))
    .refine AZ (AC (A0 (AC ?_)));have a:i<g.length:=Ba r;have B:=w _ (ξ a);refine AE (J (Bh (i) Z Z (Z) (nO a) Qs Z CZ Z) (J (D2 Z Z BG Z) (AB Z Z ?_)));refine AD (AC (AE (dd Z Z (J (Ii Z (ψ ..) E0 Z) (dd Z Z (AD (A0 (HD (α:=Nat) (λj=>⟨50,[(0,.d (nN g)),(28,(.d (nN g))),(29,(.d (AL g.length))),(30,(.d (AL i))),(34,(.d (Wq g[i]))),(35,(.d (AL g[i].length))),(36,(.d (AL j)))],[]⟩) (λj=>j<=g[i].length/\∀x∈g[i].take j,0<=x/\x<(g.length:Int)) (λj=>g[i].length - j) (0) (⟨υ _,λx y=>by simp at y⟩) (eF ⟨Z,Z,Z,Z,Z,Z,Z,trivial⟩) ?_))))))));rintro j ⟨S,y⟩;refine AC (AE (J (BN Z Z Z) (AD (AC (Ac Z (λo=>?_) (λo=>?_))))))
     .refine AZ (AC (A0 (AC ?_)));have b:j<g[i].length:=Ba o;refine AE (J (Bh (j) Z Z (Z) (uJ b) E0 Z BU Z) ?_);refine J (D2 Z Z Aw Z) (AB Z Z (AD (AC (AE (dd Z Z (J (BN Z Z Z) (dd Z Z (Ij 42 Z (λK=>?_) (λK=>?_)))))))))
      .refine A9 Z Z Z Z (A9 Z Z Z Z (A9 Z Z Z Z ?_));refine A9 Z Z Z Z (J (Ff Z Z Z Z) (AD (DO Z Z (AC (AE (AB Z Z (AD (A4 ?_))))))));exact ⟨_,[],[],A3 Z,Z,Z,eqv (fL AF (su h f ⟨g[i],ξ a,g[i][j],ξ b,by omega⟩)),Z⟩
      .refine Ad Z Z Z (dd Z Z ?_);refine Ad Z Z Z (dd Z Z (Ad Z Z Z (J (Ii Z (ψ ..) Qs Z) (Ad Z Z Z (J (ES Z Z Z) (J (EA Z Z Z Z) (AD (Ac Z (λI=>?_) (λI=>?_)))))))))
       .refine AC (AE (AB Z Z (AD (A4 ?_))));exact ⟨_,[],[],A3 Z,Z,Z,eqv (fL AF (su h f ⟨g[i],ξ a,g[i][j],ξ b,by omega⟩)),Z⟩
       .refine AZ (AE (J (Ar Z Z (Ω _ (by omega)) Z) (dd Z Z (AD ?_))));exact ⟨j+1,⟨by omega,λx t=>by rw [χ b] at t;exact (ν.1 t).elim (y x) λe=>by rw [ζ.1 e];exact ⟨by omega,by omega⟩⟩,by omega,⟨Z,Z,λ_ _=>R8.get (l:=[(0,_),(28,_),(29,_),(30,_),(34,_),(35,_),(36,_)]) ⟨Z,Z,Z,Z,Z,Z,Z,trivial⟩⟩⟩
     .refine BC ?_;have G:j=g[i].length:=by have:=o;omega
      have u:¬ZJ g.length g[i]:=λ⟨x,A,z⟩=>z (y x (by rw [G,fw];exact A));refine AE (J (Ar Z Z (Ω _ (by omega)) Z) (dd Z Z (AD ?_)));exact ⟨i+1,⟨by omega,λl v=>by rw [χ a] at v;exact (ν.1 v).elim (N l) λe=>by rw [ζ.1 e];exact u⟩,by omega,⟨Z,Z,λ_ _=>R8.get (l:=[(0,_),(28,_),(29,_),(30,_)]) ⟨Z,Z,Z,Z,trivial⟩⟩⟩
    .refine BC (AC (AE (AB Z Z (AD (A4 ?_)))));have H:i=g.length:=by have:=r;omega
     exact ⟨_,[],[],A3 Z,Z,Z,eqv (fL AF (sv h f (λ⟨l,D,C⟩=>N l (by rw [H,fw];exact D) C))),Z⟩
theorem Vu (b:TB c a o S h t s) (w:s=(a t).length) (x:S.low t≠S.idx t):
  ∃f u g,h=f++ [(u,g)]/\TH c a o {S with low:=An S.low u (min (S.low u) (S.low t)),cs:=h} none:=by
 subst w;have i:=U8 b;have l:=(b.ti.lw t i.2.1).1;obtain ⟨f,u,g,e,j⟩:=j1 b.ti b.hcs (by omega);exact ⟨f,u,g,e,j,b.k1,b.old,.inl b.rt⟩
theorem Vt {fI fH:List Nat} (b:TB c a o S h t s) (w:s=(a t).length) (l:S.low t=S.idx t) (i:S.st=fI++t::fH):
  TH c a o {S with of:=λx=>if x∈t::fH then (S.cnt:Int) else S.of x,st:=fI,cs:=h,cnt:=S.cnt+1} none/\∀f u g,h=f++ [(u,g)] ->An S.low u (min (S.low u) (S.low t))=S.low:=by
 subst w;obtain ⟨z,y⟩:=j0 b.ti b.hcs l i;refine ⟨⟨y,b.k1,b.old,.inl b.rt⟩,λf u g e=>funext λx=>?_⟩
 by_cases j:x=u
 .subst j;have:=z (x,g) (by rw [e];exact iN _ (ζ.2 Z));rw [KW]
  grind
 .rw [GY j]
theorem ng {b:Nat} (h:TB c a o S (x++ [(F,b)]) t s):F<c/\t≠F:=by
 have g:(F,b)∈S.cs:=by rw [h.hcs];exact iX _ (iN _ (ζ.2 Z))
 refine ⟨h.ti.lt F ((h.ti.st F).1 (h.ti.csm _ g)).1,λe=>?_⟩;have f:=h.ti.css;rw [h.hcs] at f
 grind
theorem Zk {fI fH:List Nat} (h:TI c a S i) (b:S.st=fI++t::fH):t∉fH:=by
 have f:=h.srt;rw [b,List.pairwise_append] at f;intro g;exact ir _ ((iK.1 f.2.1).1 t g)
theorem sg {m j:List (Nat×Nat)} {x:Nat×Nat} (h:s=z.length):((z++ [x]++m++j).map Yo)[s]? =some (Yo x):=by
 subst h;simp
theorem uI {a c j:List Nat} (h:s=(a++c).length):((a++(c++ [B])++j).map AL)[s]? =some (AL B):=by grind
theorem sN:(HQ c (λx=>if x∈A then (E:Int) else y x)).set B (AL E)=HQ c (λx=>if x∈B::A then (E:Int) else y x):=by grind [MA]
theorem az {a fH:List Nat} (h:a++ [B]++A=t::fH) (b:B≠t):a++B::A=t::fH/\a≠ []:=by grind
theorem jy {b fH:List Nat} (h:b++ [B]++A=t::fH) (f:B=t) (g:t∉fH):b=[]/\A=fH:=by
 subst f
 cases b with
 | nil=>simp at h;exact ⟨Z,h⟩
 | cons a c=>
  grind
theorem Pu {c:Type} {l:List c} (h:l≠ []):∃a b,l=a++ [b]:=by
 rcases List.eq_nil_or_concat l with e | ⟨a,b,e⟩
 .grind
 grind
theorem ja {j:List Nat} (b:TH c a o S i) (u:S.cs=h++ [(t,s)]/\i=none) (l:∃g,j=S.st++g):
  ∃f:TS,mu c a f=mu c a S/\TB c a o f h t s/\S.idx=f.idx/\S.low=f.low/\S.of=f.of/\S.st.length=f.st.length/\S.cnt=f.cnt/\S.clk=f.clk/\∃g,j=f.st++g:=by grind [nj]
theorem aF (h:TI c a S i):S.st.length<=c:=by
 have:=h.num;have:=(Rr h).1;omega
theorem S4 {f:Nat ->Nat} (h:∀v,v<j ->f v≠0) (a:f j≠0):∀v,v<j+1 ->f v≠0:=by grind
theorem j9 (h:TI c a S none) (g:S.cs=[]) (k:j<c) (o:S.idx j=0) (b:∀v,v<j ->S.idx v≠0):TH c a j S (some j):=
 ⟨jZ h g k o,λf l=>(by rw [g] at l;cases l),b,.inr Z⟩
theorem si (h:TI c a S i) (e:S.cs++pend i=z):z.length<=c+1:=by
 have f:=(Rr h).2;have b:=aF h;rw [<-e,Δ];have:(pend i).length<=1:=by cases i<;>simp [pend]
 omega
theorem Zi (h:TH c a o S i) (b:S.cs++pend i=[]):TI c a S none/\S.cs=[]/\S.idx o≠0:=by
 cases i with
 | some v=>simp [pend] at b
 | none=>exact ⟨h.ti,by simpa [pend] using b,h.rt.resolve_right λe=>by cases e⟩
structure PF (n:Nat) (suc:Nat ->List Nat) (r:Nat) (S:TS) (cs0:List (Nat×Nat)) (v:Nat) (low:Nat ->Nat):Prop where
 a:low v=S.low v
 b:low v≠S.idx v ->TH n suc r {S with low:=low,cs:=cs0} none
 c:∀fI fH,low v=S.idx v ->S.st=fI++v::fH ->TH n suc r {S with low:=low,of:=λx=>if x∈v::fH then (S.cnt:Int) else S.of x,st:=fI,cs:=cs0,cnt:=S.cnt+1} none
theorem kD {j:Nat} (h:TB c a o S (x++ [(F,j)]) t s) (l:s=(a t).length) (f:t≠F):
  ∃b,An S.low F (min (S.low F) (S.low t))=b/\PF c a o S (x++ [(F,j)]) t b:=by
 refine ⟨_,Z,⟨GY f,λi=>?_,λfI fH i g=>?_⟩⟩
 .grind [GY,Vu,List.append_inj_right']
 .rw [GY f] at i;obtain ⟨y,w⟩:=Vt h l i g
  grind
theorem kE (b:TB c a o S h t s) (j:s=(a t).length) (y:h=[]):
  ∃f,S.low=f/\PF c a o S h t f:=by
 refine ⟨_,Z,⟨Z,λi=>?_,λfI fH i g=>(Vt b j i g).1⟩⟩;obtain ⟨u,w,l,e,x⟩:=Vu b j i
 simp_all
theorem n9 (a:∀v,v<s ->y v= -1):∀v,v<s+1 ->An y s (-1) v= -1:=by grind [KW,GY]
theorem Te (g:List (List Nat)) (hg:GB g):AJ prog 180 [.d (L7 g)] [] λr H'=>∃of cnt,gH g.length (eW g) of cnt/\r= .tup [.own 2 0 g.length,.d (AL cnt)]/\H'=[(2,[.rowD 3 1 (rowN g.length of)])]:=by
 have hn:=hg.n;refine As func180 Z Z ntmps180 Z Z Z λF P=>(AC (AE (AB Z Z (AB Z Z (AD (AC (AE (dd Z Z ?_))))))));refine J (Ii Z (ψ ..) Qs Z) (AB Z Z (AD (AC (DB [[],[0],[],[2],[],[4],[0,1],[0,1,2,3,6],rg 8] mixed Z (DP (Av 4 Z Z (Fp [21] [0] [(22,_)] Z Z (λ_=>Fs (E5 0 BV Z Z Z (by omega) n4 Z Z Z Z)) (.inr ⟨22,_,Z,Z,Z,Z,Z⟩) Z Z Z Z Z (Av 4 Z Z ?_))))))));refine Fp [23] [1] [(24,_)] Z Z (λ_=>Fs (E5 1 BV Z Z Z (by omega) n4 Z Z Z Z)) (.inr ⟨24,_,Z,Z,Z,Z,Z⟩) Z Z Z Z Z (Av 4 Z Z (Fp [25] [2] [(26,_)] Z Z (λ_=>Fs (E5 2 BV Z Z Z (by omega) n4 Z Z Z Z)) (.inr ⟨26,_,Z,Z,Z,Z,Z⟩) Z Z Z Z Z (AQ [22] Z (GA Z Z) (AQ [24] Z (GA Z Z) (Cg 8 Z Z Z (Ag 9 Z Z (AB Z Z (AD ⟨Z,?_⟩))))))));refine Cr (AC (AC ?_));rw [te];refine AE (dd Z Z (J (QD Z E0 Z) (dd Z Z (AD (A0 (BX (α:=Nat×(Nat ->Int)) (λq=>⟨214,[(0,.d (L7 g)),(5,(.own 0 0 g.length)),(6,(.own 1 0 g.length)),(7,(.own 2 0 g.length)),(28,(.d (AL g.length))),(29,(.d (AL q.1)))],[(0,[.rowD 3 1 (HQ g.length λ_=>0)]),(1,[.rowD 3 1 (HQ g.length λ_=>0)]),(2,[.rowD 3 1 (HQ g.length q.2)])]⟩) (λq=>q.1<=g.length/\∀v,v<q.1 ->q.2 v= -1) (λq=>g.length - q.1) ((0,λ_=>0)) (⟨υ _,λv h=>absurd h (Nat.not_lt_zero _)⟩) (AY P [0,1,2] Z Z ⟨Z,Z,Z,Z,Z,Z,trivial⟩) ?_))))));rintro ⟨k,f⟩ ⟨hk,hf⟩;dsimp only at hk hf⊢;refine AC (AE (J (BN Z Z Z) (AD (AC (Ac Z (λh30=>?_) (λh30=>?_))))))
 .refine AZ (AC (A0 (AC ?_)));have A:k<g.length:=Ba h30;refine AE (dd Z Z (AB Z Z (AD (AE ?_))));refine dd Z Z (dd Z Z (J (Ce (k) Z Z (Z) (A) Z E0 BU Z) (V (XW Z Z Z Z Z (by rw [SH];exact A) a9 Z BU) (AD (AE (J (Ar Z Z (Ω _ (by omega)) Z) (dd Z Z (AD ?_))))))));exact ⟨(k+1,An f k (-1)),⟨A,n9 hf⟩,by show g.length - (k+1)<g.length - k;omega,AY P [0,1,2] Z (Z) ⟨Z,Z,Z,Z,Z,Z,trivial⟩⟩
 .refine BC (AC ?_);have hke:k=g.length:=by have:=h30;omega
  subst hke;have hfe:HQ g.length f=HQ g.length (λ_=> -1):=fi λv hv=>by rw [hf v (Θ.1 hv)]
  rw [hfe];refine AE (AB Z Z ?_);skip;refine AD (AC (AE (AB Z Z (AB Z Z (AD (AC ?_))))));refine AC (AE (dd Z Z (J (Ii Z (ψ ..) Qs Z) (dd Z Z (AD (A0 (Ou 9 3 BV Z Z Z Z (BX (α:=Nat×TS×List Nat) (λq=>⟨214,[(0,.d (L7 g)),(5,(.own 0 0 g.length)),(6,(.own 1 0 g.length)),(7,(.own 2 0 g.length)),(9,(.own 3 0 q.2.1.st.length)),(10,(.d (AL q.2.1.cnt))),(11,(.d (AL q.2.1.clk))),(37,(.d (AL g.length))),(38,(.d (AL q.1)))],[(0,[.rowD 3 1 (rowN g.length q.2.1.idx)]),(1,[.rowD 3 1 (rowN g.length q.2.1.low)]),(2,[.rowD 3 1 (HQ g.length q.2.1.of)]),(3,[.rowD 3 1 (q.2.2.map AL)])]⟩) (λq=>q.1<=g.length/\TI g.length (eW g) q.2.1 none/\q.2.1.cs=[]/\(∀v,v<q.1 ->q.2.1.idx v≠0)/\∃U,q.2.2=q.2.1.st++U) (λq=>g.length - q.1) ((0,⟨λ_=>0,λ_=>0,λ_=> -1,[],[],0,0⟩,[])) (⟨υ _,jY _ _,Z,λv h=>absurd h (Nat.not_lt_zero _),[],Z⟩) (AY P [0,1,2,3] Z Z ⟨Z,Z,Z,Z,Z,Z,Z,Z,Z,trivial⟩) ?_))))))));rintro ⟨i,S,E⟩ ⟨hi,hti,hcs,I,C⟩;dsimp only at hi hti hcs I C⊢;refine AC (AE (J (BN Z Z Z) (AD (AC (Ac Z (λh39=>?_) (λh39=>?_))))))
  .refine AZ (AC (A0 (AC ?_)));have hil:i<g.length:=Ba h39;refine AE (dd Z Z (AB Z Z (AD (AC ?_))));refine AC (AE (dd Z Z (dd Z Z (J (Ce (i) Z Z (Z) (hil) Z E0 BU Z) (J (D1 Z Z (MW hil) Z Aw Z) (J (D7 Z Z Z) (AD (Ac Z (λh45=>?_) (λh45=>?_)))))))))
   .refine BC ?_
    first | have hE:=Zi y (hfr▸List.length_eq_zero_iff.1 (by omega)) | skip
    refine AE (J (Ar Z Z (Ω _ (by omega)) Z) (dd Z Z (AD ?_)));exact ⟨(i+1,S,E),⟨hil,hti,hcs,S4 I (λe2=>h45 (fL Int.ofNat e2)),C⟩,by show g.length - (i+1)<g.length - i;omega,AY P [0,1,2,3] Z (Z) ⟨Z,Z,Z,Z,Z,Z,Z,Z,Z,trivial⟩⟩
   .refine AZ (AC ?_);have h0:S.idx i=0:=Int.ofNat.inj (Classical.not_not.1 h45);refine AE (dd Z Z (J (Fe m8 nA Z Z Z) (V (D6 4 aO Z Z Z Z Z Z Z Z) (AB Z Z (AD (A0 (BX (α:=TS×Option Nat×List (Nat×Nat)×List Nat×List (Nat×Nat)) (λq=>⟨214,[(0,.d (L7 g)),(5,(.own 0 0 g.length)),(6,(.own 1 0 g.length)),(7,(.own 2 0 g.length)),(9,(.own 3 0 q.1.st.length)),(10,(.d (AL q.1.cnt))),(11,(.d (AL q.1.clk))),(13,(.own 4 0 q.2.2.1.length)),(37,(.d (AL g.length))),(38,(.d (AL i)))],[(0,[.rowD 3 1 (rowN g.length q.1.idx)]),(1,[.rowD 3 1 (rowN g.length q.1.low)]),(2,[.rowD 3 1 (HQ g.length q.1.of)]),(3,[.rowD 3 1 (q.2.2.2.1.map AL)]),(4,[.rowD 318 2 (q.2.2.2.2.map Yo)])]⟩) (λq=>TH g.length (eW g) i q.1 q.2.1/\q.2.2.1=q.1.cs++pend q.2.1/\(∃U,q.2.2.2.1=q.1.st++U)/\∃T,q.2.2.2.2=q.2.2.1++T) (λq=>mu g.length (eW g) q.1) ((S,some i,[(i,0)],E,[(i,0)])) (⟨j9 hti hcs hil h0 I,by rw [hcs];rfl,C,[],Z⟩) (AY P [0,1,2,3,4] Z Z ⟨Z,Z,Z,Z,Z,Z,Z,Z,Z,Z,trivial⟩) ?_)))))));rintro ⟨S,p,fr,E,r4⟩ ⟨y,hfr,C,T,hr4⟩;dsimp only at y hfr C hr4⊢;have hclk:=Rr y.ti;refine AC (AC (AE (dd Z Z (J (QD Z b0 Z) (J (Ot Z Z Z) (AD (Ac Z (λh51=>?_) (λh51=>?_))))))))
    .refine AZ (A0 (AC ?_));have hne:S.cs++pend p≠ []:=λe=>by rw [hfr,e] at h51;exact absurd h51 (by decide)
     obtain ⟨o,v,k,hcs2,s,hk0,hk1⟩:=j8 y hne;have hfrl:=si y.ti hcs2;have hfr2:=hfr.trans hcs2;subst hfr2;have hlen1:(((o++ [(v,k)]).length:Nat):Int) - 1=(o.length:Int):=by simp
     have hlen2:o.length<(o++ [(v,k)]).length:=by simp
     subst hr4;refine AE (dd Z Z (dd Z Z (J (QD Z b0 Z) (J (RY Z Z (Ω _ (by omega)) Z) (J (Ce (o.length) Z Z (hlen1) (hlen2) Z b0 Zn Z) (AB Z Z (AD (AC ?_))))))));refine AC (AE (dd Z Z (J (ZP Z Z) (J (XU Z Js Z Z Z) (J (D1 Z Z (Kz Z) Z Aw Z) (J (Li Z Z Z) (AD (Ac Z (λh61=>?_) (λh61=>?_)))))))));refine AC ?_;obtain ⟨hcs3,hp3⟩:=hk0 (Int.ofNat.inj h61);have hcl:=hclk.1;refine AE (dd Z Z (J (Ar Z Z (Ω _ (by omega)) Z) (Oc 63 (.d (AL (S.clk+1))) Z (eqv (fL AF (by omega))) (AB Z Z (AD (AC (DB [[],[],[1],[1,2],[1,2,3],[],[],[6],[6,7],[6,7,8],[],[],[0,1,2,3,4,6,7,8,9,10],[0,1,2,3,4,6,7,8,9,10,12],rg 14,rg 15] mixed Z (DP ?_))))))));refine Av 5 Z Z (Av 14 Z Z (AQ [65] Z (ZP Z Z) (AQ [66] Z (XU Z Eb Z Z Z) (Az [67] Z Z (λ_=>A5 (D1 Z Z (Kz Z) Z Aw Z)) (Av 6 Z Z (Av 14 Z Z (AQ [70] Z (ZP Z Z) (AQ [71] Z (XU Z Eb Z Z Z) ?_))))))));refine Az [72] Z Z (λ_=>A5 (D1 Z Z (Kz Z) Z Aw Z)) (Av 11 Z Z (Av 11 Z Z (Az [64,68] Z Z (λ_=>A5 (Ce (v) Z Z (Z) (s) Z E0 BU Z)) (Fp [76,74] [0] [] Z Z (λ_=>Fs (XW Z Z Z Z Z (by rw [DV];exact s) DU Z BU)) (.inl ⟨Z,Z⟩) Z Z Z Z Z (Cg 14 Z Z Z (Ag 15 Z Z (J (Ce (v) Z Z (Z) (s) Z E0 BU Z) (AD ⟨Z,?_⟩))))))));refine Ag 16 Z Z (V (XW Z Z Z Z Z (by rw [DV];exact s) DU Z BU) (AD ⟨Z,?_⟩));refine Cr ?_;obtain ⟨U,M⟩:=C;subst M;have hstl:=aF y.ti;refine AE (dd Z Z (dd Z Z (J (ZP Z Z) (J (XU Z Eb Z Z Z) (J (D1 Z Z (Kz Z) Z Aw Z) (V (D6 21 BV Z Z Z Z Z Z Z Z) (V (G4 Z Z Z (by simp) Z Z (by simp) BV (by omega) Z Z (mc S.st U) Z Z) (AB Z Z ?_))))))));subst hp3;have W:=Zj y;have hmu0:mu g.length (eW g) _=mu g.length (eW g) S:=bq (S:=S) (l:=An S.low v (S.clk+1)) (st:=S.st++ [v]) (c:=S.clk+1) s (y.ti.pnd v Z).2.1
     obtain ⟨a,D⟩:∃a:TS,a=⟨An S.idx v (S.clk+1),An S.low v (S.clk+1),S.of,S.st++ [v],S.cs++ [(v,0)],S.cnt,S.clk+1⟩:=⟨_,Z⟩
     have e1:An S.idx v (S.clk+1)=a.idx:=by rw [D]
     have e2:An S.low v (S.clk+1)=a.low:=by rw [D]
     have e3:S.of=a.of:=by rw [D]
     have e4:S.st.length+1=a.st.length:=by rw [D];simp
     have e5:S.cnt=a.cnt:=by rw [D]
     have e6:S.clk+1=a.clk:=by rw [D]
     have z:∃U,S.st++ [v]=a.st++U:=⟨[],by rw [D,gN]⟩
     obtain ⟨E,hr3e⟩:∃E,S.st++ [v]=E:=⟨_,Z⟩
     rw [<-D] at W hmu0;rw [e1,e2,e3,e4,e5,e6,hr3e];rw [hr3e] at z;have N:=hmu0;have b:TB g.length (eW g) i a o v k:=by rw [hcs3,<-Int.ofNat.inj h61] at W;exact W
     refine AD ?_
     rotate_left
     obtain ⟨a,N,b,e1,e2,e3,e4,e5,e6,z⟩:=ja y (hk1 λe=>h61 (fL Int.ofNat e)) C;rw [e1,e2,e3,e4,e5,e6];refine AZ ?_
     all_goals
      refine AC (AC ?_);refine DB [[],[0],[0,1],[0,1,2],[],[],[5],[5,6],[5,6,7],[4,5,6,7,8],[4,5,6,7,8,9],[4,5,6,7,8,9,10],rg 12] mixed Z (DP (Av 14 Z Z (AQ [85] Z (ZP Z Z) (AQ [86] Z (XU Z Js Z Z Z) (Az [87] Z Z (λ_=>A5 (D1 Z Z (Kz Z) Z Aw Z)) (Av 0 Z Z (Av 14 Z Z (AQ [90] Z (ZP Z Z) ?_))))))));refine AQ [91] Z (XU Z Eb Z Z Z) (Az [92] Z Z (λ_=>A5 (D1 Z Z (Kz Z) Z Aw Z)) (AQ [89,93] Z (Bh (v) Z Z (Z) (Ym s) Qs Z CZ Z) (AQ [94] Z (D2 Z Z BG Z) (AQ [95] Z (Ii Z (ψ ..) E0 Z) (Cg 12 Z Z Z (Ag 13 Z Z (J (BN Z Z Z) (AD ⟨Z,?_⟩))))))));refine Cr (Ac Z (λh97=>?_) (λh97=>?_))
      .refine AC ?_;have A:k<(eW g v).length:=Ba h97;have B:e9 (eW g v) k<g.length:=hg.suc s (DZ A);have hgn:=Nn A;have hjk:(eW g v)[k]? =some (e9 (eW g v) k):=bb A
       obtain ⟨j,hje⟩:∃j,e9 (eW g v) k=j:=⟨_,Z⟩
       rw [hje] at B hgn hjk;have hsl:=hg.len s;refine DB [[],[],[1],[1,2],[1,2,3],rg 5,rg 6,[],[7],[7,8],[7,8,9],rg 11,rg 12,rg 13] mixed Z (DP (Av 0 Z Z (Av 14 Z Z (AQ [99] Z (ZP Z Z) (AQ [100] Z (XU Z Eb Z Z Z) (Az [101] Z Z (λ_=>A5 (D1 Z Z (Kz Z) Z Aw Z)) (AQ [98,102] Z (Bh (v) Z Z (Z) (Ym s) Qs Z CZ Z) ?_)))))));refine AQ [103] Z (D2 Z Z BG Z) (Av 14 Z Z (AQ [105] Z (ZP Z Z) (AQ [106] Z (XU Z Js Z Z Z) (Az [107] Z Z (λ_=>A5 (D1 Z Z (Kz Z) Z Aw Z)) (Cg 11 Z Z Z (Ag 12 Z Z (J (Bh (k) Z Z (Z) (hgn) E0 Z BU Z) (AD ⟨Z,?_⟩))))))));refine Ag 13 Z Z (J (D2 Z Z Aw Z) (AD ⟨Z,?_⟩));refine Ag 14 Z Z (AB Z Z (AD ⟨Z,?_⟩));refine Cr (AC (AE (dd Z Z (J (ZP Z Z) (J (XU Z Js Z Z Z) ?_)))));refine J (D1 Z Z (Kz Z) Z Aw Z) (J (Ar Z Z (Ω _ (by omega)) Z) (Oc 115 (.d (AL (k+1))) Z (eqv (fL AF (by omega))) (J (ZP Z Z) (J (XU Z Js Z Z Z) (V (PE (z':=Yo (v,k+1)) Z Z Z Z (Kz Z) Z (ϖ 2) (tX Z) Z Z BU) (AD (AC (AC ?_))))))));rw [show (o++ [(v,k)]).length=(o++ [(v,k+1)]).length by simp] at hfrl⊢;refine AE (dd Z Z (dd Z Z (J (Ce (j) Z Z (Z) (B) Z E0 BU Z) (J (D1 Z Z (MW B) Z Aw Z) (J (Li Z Z Z) (AD (Ac Z (λL=>?_) (λL=>?_))))))))
       .refine AE ?_;refine dd Z Z (dd Z Z (J (Fe m8 nA Z Z Z) (V (D6 22 aO Z Z Z Z Z Z Z Z) (V (G4 Z Z Z (by simp) Z Z (by simp) aO (by omega) Z Z (rG (x:=(j,0)) (o++ [(v,k+1)]) T) Z Z) (Oc 127 (.own 4 0 (o++ [(v,k+1)]++ [(j,0)]).length) Z (by simp) (AB Z Z (AD (BC ?_))))))));exact ⟨(⟨a.idx,a.low,a.of,a.st,o++ [(v,k+1)],a.cnt,a.clk⟩,some j,o++ [(v,k+1)]++ [(j,0)],E,o++ [(v,k+1)]++ [(j,0)]),⟨nk b hjk B (Int.ofNat.inj L),Z,z,[],(gN _).symm⟩,by rw [<-N];exact VH b.hcs A,AY P [0,1,2,3,4] Z (Z) ⟨Z,Z,Z,Z,Z,Z,Z,Z,Z,Z,trivial⟩⟩
       .refine AC (AE (dd Z Z (dd Z Z (J (Ce (j) Z Z (Z) (B) Z E0 BU Z) (J (D1 Z Z (aa B) Z Aw Z) (J (BN Z Z Z) (AD (Ac Z (λh132=>?_) (λh132=>?_)))))))))
        .refine DB [[],[],[1],[1,2],[1,2,3],[],[],[6],[6,7],[6,7,8],[5,6,7,8,9],[5,6,7,8,9,10],[],[],[12,13],[12,13,14],[5,6,7,8,9,10,11,12,13,14,15],rg 17,rg 18] mixed Z (DP (Av 6 Z Z (Av 14 Z Z (AQ [134] Z (ZP Z Z) ?_))));refine AQ [135] Z (XU Z Eb Z Z Z) (Az [136] Z Z (λ_=>A5 (D1 Z Z (Kz Z) Z Aw Z)) (Av 6 Z Z (Av 14 Z Z (AQ [139] Z (ZP Z Z) (AQ [140] Z (XU Z Eb Z Z Z) (Az [141] Z Z (λ_=>A5 (D1 Z Z (Kz Z) Z Aw Z)) (Az [138,142] Z Z (λ_=>A5 (Ce (v) Z Z (Z) (s) Z E0 BU Z)) (Az [143] Z Z (λ_=>A5 (D1 Z Z (MW s) Z Aw Z)) ?_))))))));refine Av 5 Z Z (Av 15 Z Z (Az [145,146] Z Z (λ_=>A5 (Ce (j) Z Z (Z) (B) Z E0 BU Z)) (Az [147] Z Z (λ_=>A5 (D1 Z Z (MW B) Z Aw Z)) (AQ [144,148] Z (QP Z Z (oc _ _) Z) (Cg 17 Z Z Z (Ag 18 Z Z (J (Ce (v) Z Z (Z) (s) Z E0 BU Z) (AD ⟨Z,?_⟩))))))));refine Ag 19 Z Z (V (XW Z Z Z Z Z (by rw [DV];exact s) DU Z BU) (AD ⟨Z,?_⟩));refine Cr (BC ?_);exact ⟨(⟨a.idx,An a.low v (min (a.low v) (a.idx j)),a.of,a.st,o++ [(v,k+1)],a.cnt,a.clk⟩,none,o++ [(v,k+1)],E,o++ [(v,k+1)]++T),⟨nl b hjk B (λe=>L (fL Int.ofNat e)) h132,(gN _).symm,z,T,Z⟩,by rw [<-N];exact VH b.hcs A,AY P [0,1,2,3,4] Z (Z) ⟨Z,Z,Z,Z,Z,Z,Z,Z,Z,Z,trivial⟩⟩
        .refine AZ (BC ?_);exact ⟨(⟨a.idx,a.low,a.of,a.st,o++ [(v,k+1)],a.cnt,a.clk⟩,none,o++ [(v,k+1)],E,o++ [(v,k+1)]++T),⟨jb b hjk B (λe=>L (fL Int.ofNat e)) h132,(gN _).symm,z,T,Z⟩,by rw [<-N];exact VH b.hcs A,AY P [0,1,2,3,4] Z (Z) ⟨Z,Z,Z,Z,Z,Z,Z,Z,Z,Z,trivial⟩⟩
      .refine AZ (AC ?_);have hke:k=(eW g v).length:=by have:=(U8 b).2.2.2;have:=h97;omega
       refine AE (dd Z Z (J (ZP Z Z) (J (XU Z Eb Z Z Z) (J (D1 Z Z (Kz Z) Z Aw Z) (AB Z Z ?_)))));refine AD (AC (AE (dd Z Z (dd Z Z (J (QD Z b0 Z) (J (RY Z Z (Ω _ (by omega)) Z) (J (Fx o.length Z Z hlen1 (by simp) Z b0 Zn Z) (AB Z Z ?_))))))));refine AD (AC (AC (AE (dd Z Z (J (QD Z b0 Z) (J (Ot Z Z Z) (AD (Ac Z (λh162=>?_) (λh162=>?_)))))))));refine AC ?_;obtain ⟨Q,⟨u,ku⟩,hcu⟩:=Pu (l:=o) (λe=>by rw [e] at h162;exact absurd h162 (by decide));subst hcu;obtain ⟨hun,hvu⟩:=ng b;have hlen3:(((Q++ [(u,ku)]).length:Nat):Int) - 1=(Q.length:Int):=by simp
       have hlen4:Q.length<(Q++ [(u,ku)]).length:=by simp
       refine AE (dd Z Z (dd Z Z (J (QD Z b0 Z) (J (RY Z Z (Ω _ (by omega)) Z) (J (Ce (Q.length) Z Z (hlen3) (hlen4) Z b0 Zn Z) (J (XU Z Eb Z Z Z) (J (D1 Z Z (sg Z) Z Aw Z) (AB Z Z ?_))))))));refine AD (DB [[],[],[],[],[2,3],[2,3,4],[],[],[6,7],[6,7,8],[2,3,4,5,6,7,8,9],rg 11,rg 12] mixed Z (DP (Av 6 Z Z (Av 17 Z Z (Av 6 Z Z (Av 17 Z Z (Az [172,173] Z Z (λ_=>A5 (Ce (u) Z Z (Z) (hun) Z E0 BU Z)) (Az [174] Z Z (λ_=>A5 (D1 Z Z (MW hun) Z Aw Z)) ?_))))))));refine Av 6 Z Z (Av 16 Z Z (Az [176,177] Z Z (λ_=>A5 (Ce (v) Z Z (Z) (s) Z E0 BU Z)) (Az [178] Z Z (λ_=>A5 (D1 Z Z (MW s) Z Aw Z)) (AQ [175,179] Z (QP Z Z (oc _ _) Z) (Cg 11 Z Z Z (Ag 12 Z Z (J (Ce (u) Z Z (Z) (hun) Z E0 BU Z) (AD ⟨Z,?_⟩))))))));refine Ag 13 Z Z (V (XW Z Z Z Z Z (by rw [DV];exact hun) DU Z BU) (AD ⟨Z,?_⟩));refine Cr ?_
       rotate_left
       refine AZ ?_
       all_goals
        refine AC (AC ?_)
        first | (obtain ⟨H,G,hPX⟩:=kD b hke hvu;rw [G];obtain ⟨t,hcX⟩:∃l,Q++ [(u,ku)]=l:=⟨_,Z⟩;rw [hcX] at b hPX⊢) | (obtain ⟨H,G,hPX⟩:=kE b hke (List.length_eq_zero_iff.1 (by omega));rw [G];obtain ⟨t,hcX⟩:∃l,o=l:=⟨_,Z⟩;rw [hcX] at b hPX⊢)
        refine DB [[],[],[0,1],[0,1,2],[],[],[4,5],[4,5,6],rg 8] mixed Z (DP (Av 6 Z Z (Av 16 Z Z (Az [182,183] Z Z (λ_=>A5 (Ce (v) Z Z (Z) (s) Z E0 BU Z)) ?_))));refine Az [184] Z Z (λ_=>A5 (D1 Z Z (MW s) Z Aw Z)) (Av 5 Z Z (Av 16 Z Z (Az [186,187] Z Z (λ_=>A5 (Ce (v) Z Z (Z) (s) Z E0 BU Z)) (Az [188] Z Z (λ_=>A5 (D1 Z Z (MW s) Z Aw Z)) (Cg 8 Z Z Z (Ag 9 Z Z (J (D7 Z Z Z) (AD ⟨Z,?_⟩))))))));refine Cr (Ac Z (λh190=>?_) (λh190=>?_))
        .refine BC ?_;exact ⟨(⟨a.idx,H,a.of,a.st,t,a.cnt,a.clk⟩,none,t,E,t++ [(v,k)]++T),⟨hPX.b (λe=>h190 (fL Int.ofNat e)),(gN _).symm,z,[(v,k)]++T,io _ _ _⟩,by rw [<-N];exact br b.hcs,AY P [0,1,2,3,4] Z (Z) ⟨Z,Z,Z,Z,Z,Z,Z,Z,Z,Z,trivial⟩⟩
        .refine AZ (AC (A0 ?_));obtain ⟨fI,fH,Y⟩:=List.append_of_mem (U8 b).2.1;obtain ⟨U,M⟩:=z;have hndp:=Zk b.ti Y;have hof:HQ g.length a.of=HQ g.length (λx=>if x∈([]:List Nat) then (a.cnt:Int) else a.of x):=(by simp);rw [hof,show a.st.length=(fI++(v::fH)).length by rw [Y]];have X:=aF b.ti;have hstv:∀x∈fI++v::fH,x<g.length:=(λx hx=>b.ti.lt x ((b.ti.st x).1 (by rw [Y];exact hx)).1);rw [Y] at M X;refine BX (α:=List Nat×List Nat) (λq=>⟨214,[(0,.d (L7 g)),(5,(.own 0 0 g.length)),(6,(.own 1 0 g.length)),(7,(.own 2 0 g.length)),(9,(.own 3 0 (fI++q.1).length)),(10,(.d (AL a.cnt))),(11,(.d (AL a.clk))),(13,(.own 4 0 t.length)),(16,(.d (AL v))),(37,(.d (AL g.length))),(38,(.d (AL i)))],[(0,[.rowD 3 1 (rowN g.length a.idx)]),(1,[.rowD 3 1 (rowN g.length H)]),(2,[.rowD 3 1 (HQ g.length (λx=>if x∈q.2 then (a.cnt:Int) else a.of x))]),(3,[.rowD 3 1 (E.map AL)]),(4,[.rowD 318 2 ((t++ [(v,k)]++T).map Yo)])]⟩) (λq=>q.1++q.2=v::fH/\q.1≠ []) (λq=>q.1.length) ((v::fH,[])) (⟨gN _,λe=>by cases e⟩) (AY P [0,1,2,3,4] Z Z ⟨Z,Z,Z,Z,Z,Z,Z,Z,Z,Z,Z,trivial⟩) ?_;rintro ⟨c,dn⟩ ⟨O,hcne⟩;dsimp only at O hcne⊢;refine A0 (AC ?_);obtain ⟨R,w,hcw⟩:=Pu hcne;subst hcw;have hws:fI++v::fH++U=fI++(R++ [w])++(dn++U):=by rw [<-O];simp
         have hwn:w<g.length:=hstv w (by rw [<-O];simp);have hl6:(fI++(R++ [w])).length<=g.length:=by rw [<-O] at X;simp at X⊢;omega
         have hl7:(((fI++(R++ [w])).length:Nat):Int) - 1=((fI++R).length:Int):=by simp<;>omega
         have hl8:(fI++R).length<(fI++(R++ [w])).length:=by simp
         have hl9:(fI++R).length<=(E.map AL).length:=by rw [M,hws];simp<;>omega
         have hgw:(E.map AL)[(fI++R).length]? =some (AL w):=by rw [M,hws];exact uI rfl
         refine AE (dd Z Z (dd Z Z (J (QD Z E0 Z) (J (RY Z Z (Ω _ (by omega)) Z) (J (Ce ((fI++R).length) Z Z (hl7) (hl8) Z E0 BU Z) (J (D1 Z Z (hgw) Z Aw Z) (AB Z Z ?_)))))));refine AD (AC (AE (dd Z Z (dd Z Z (J (QD Z E0 Z) (J (RY Z Z (Ω _ (by omega)) Z) (J (Fx (fI++R).length Z Z hl7 hl9 Z E0 BU Z) (AB Z Z ?_))))))));skip;refine AD (AC (AE (dd Z Z (dd Z Z (dd Z Z (J (Ce (w) Z Z (Z) (hwn) Z E0 BU Z) ?_))))));refine V (XW Z Z Z Z Z (by rw [SH];exact hwn) sN Z BU) (AD (AC (AE (dd Z Z (dd Z Z (J (Li Z Z Z) (AD (Ac Z (λK=>?_) (λK=>?_)))))))))
         .refine BC ?_;obtain ⟨hc0,hdn⟩:=jy O (Int.ofNat.inj K) hndp;subst hc0;rw [gN,hdn,Int.ofNat.inj K];have hcl3:=b.ti.num;have hcl4:=(Rr b.ti).1;refine AE (dd Z Z (J (Ar Z Z (Ω _ (by omega)) Z) (Oc 210 (.d (AL (a.cnt+1))) Z (eqv (fL AF (by omega))) (AB Z Z (AD ?_)))));exact ⟨(⟨a.idx,H,λx=>if x∈v::fH then (a.cnt:Int) else a.of x,fI,t,a.cnt+1,a.clk⟩,none,t,E,t++ [(v,k)]++T),⟨hPX.c fI fH (Int.ofNat.inj (Classical.not_not.1 h190)) Y,(gN _).symm,⟨v::fH++U,by rw [M];simp⟩,[(v,k)]++T,io _ _ _⟩,by rw [<-N];exact br b.hcs,AY P [0,1,2,3,4] Z (Z) ⟨Z,Z,Z,Z,Z,Z,Z,Z,Z,Z,trivial⟩⟩
         .refine AZ ?_;exact ⟨(R,w::dn),az O (λe=>K (fL Int.ofNat e)),by show R.length<(R++ [w]).length;simp,AY P [0,1,2,3,4] Z (Z) ⟨Z,Z,Z,Z,Z,Z,Z,Z,Z,Z,Z,trivial⟩⟩
    .refine BC ?_
     first | have hE:=Zi y (hfr▸List.length_eq_zero_iff.1 (by omega)) | skip
     refine AE (J (Ar Z Z (Ω _ (by omega)) Z) (dd Z Z (AD ?_)));exact ⟨(i+1,S,E),⟨hil,hE.1,hE.2.1,S4 y.old hE.2.2,C⟩,by show g.length - (i+1)<g.length - i;omega,AY P [0,1,2,3] Z (Z) ⟨Z,Z,Z,Z,Z,Z,Z,Z,Z,trivial⟩⟩
  .refine BC (AC ?_);have hin:i=g.length:=by have:=h39;omega
   subst hin;obtain ⟨hof,hofe⟩:=Zh hti hcs I;have hre:HQ g.length S.of=rowN g.length (λv=>(S.of v).toNat):=fi λv hv=>fL AF (hofe v (Θ.1 hv));rw [hre];refine AE (dd Z Z (dd Z Z (AB Z Z (AB Z Z (AD (A4 ?_))))));exact ⟨_,[2],_,A3 Z,Z,Z,_,_,hof,Z,Z⟩
abbrev HL (lst:List Nat):Hp:=[(5,[.blk 28 [.own 6 0 lst.length]]),(6,[.rowD 3 1 (lst.map AL)])]
theorem kb (c:List Nat) (a b:Nat) (g:a<c.length) (f:b<c.length):AJ prog 182 [.d (AL a),.d (AL b),.ptr 5 0 0] (HL c) λr h=>r= .d (Aa (decide (e9 c a<e9 c b)))/\h=HL c:=by
 refine As func182 Z Z ntmps182 Z Z Z λF i=>(AC ?_);refine AE (AB Z Z (AD (AC (DB [[],[],[0,1],[0,1,2],[],[],[4,5],[4,5,6],rg 8,rg 9] mixed Z (DP (Az [2] Z Z (λ_=>A5 (A2 Z Z Z BG Z)) (Av 0 Z Z (Az [6,7] Z Z (λ_=>A5 (Ce (a) Z Z (Z) (g) Z E0 BU Z)) ?_))))))));refine Az [8] Z Z (λ_=>A5 (D1 Z Z (Nn g) Z Aw Z)) (Az [2] Z Z (λ_=>A5 (A2 Z Z Z BG Z)) (Av 1 Z Z (Az [10,11] Z Z (λ_=>A5 (Ce (b) Z Z (Z) (f) Z E0 BU Z)) (Az [12] Z Z (λ_=>A5 (D1 Z Z (Nn f) Z Aw Z)) (Cg 8 Z Z Z (Ag 9 Z Z (J (BN Z Z Z) (AD ⟨Z,?_⟩))))))));refine Ag 10 Z Z (AB Z Z (AD ⟨Z,?_⟩));refine Cr (A4 ?_);exact ⟨_,[5,6],_,A3 Z,Z,Z,uN Int.ofNat_lt,Z⟩
abbrev Lj (lst:List Nat) (l j:List Nat):Hp:=[(1,[.blk 323 [.own 2 0 l.length,.fn 182 [.ptr 5 0 0]]]),(2,[.rowD 3 1 ((l++j).map AL)]),(5,[.blk 28 [.own 6 0 lst.length]]),(6,[.rowD 3 1 (lst.map AL)])]
theorem TL {a:List Nat} (h:j<u.length):((u++a).map AL)[j]? =some (AL (e9 u j)):=by
 rw [Nn (by rw [Δ];omega),W9 h]
theorem VL (a:List Nat) (l j:List Nat):AJ prog 223 [.ptr 1 0 0] (Lj a l j) λr b=>r= .d (AL l.length)/\b=Lj a l j:=by
 refine As func223 Z Z ntmps223 Z Z Z λF c=>(AC (AE (AB Z Z (AD (AC ?_)))));refine AE (dd Z Z (J (KS Z Z) (J (AU Z XR Z Z Z) (J (A2 Z Z Z BG Z) (J (QD Z E0 Z) (AB Z Z (AD (A4 ?_))))))));exact ⟨_,[1,2,5,6],_,A3 Z,Z,Z,Z,Z⟩
theorem Qd (c:List Nat) (l j:List Nat) (i:∀x∈l,x<c.length) (a b:Nat) (h:a<l.length) (g:b<l.length):AJ prog 296 [.ptr 1 0 0,.d (AL a),.d (AL b)] (Lj c l j) λr k=>r= .d (Aa (decide (e9 c (e9 l a)<e9 c (e9 l b))))/\k=Lj c l j:=by
 have f:=kb c (e9 l a) (e9 l b) (i _ (DZ h)) (i _ (DZ g));refine As func296 Z Z ntmps296 Z Z Z λF o=>(AC (AE ?_));refine AB Z Z (AD (AC (DB [[],[0],[0,1],[0,1,2],[],[4],[4,5],[4,5,6],[],[4,5,6,7,8],[4,5,6,7,8,9],[],[11],[11,12],[11,12,13],[],[11,12,13,14,15],[11,12,13,14,15,16],rg 18,rg 19] mixed Z (DP (Av 0 Z Z (AQ [7] Z (KS Z Z) (AQ [8] Z (AU Z ky Z Z Z) (Az [9] Z Z (λ_=>A5 (A2 Z Z Z sJ Z)) ?_))))))));refine Av 0 Z Z (AQ [11] Z (KS Z Z) (AQ [12] Z (AU Z XR Z Z Z) (Az [13] Z Z (λ_=>A5 (A2 Z Z Z BG Z)) (Av 1 Z Z (Az [14,15] Z Z (λ_=>A5 (Ce (a) Z Z (Z) (h) Z E0 BU Z)) (Az [16] Z Z (λ_=>A5 (D1 Z Z (TL h) Z Aw Z)) (Av 0 Z Z (AQ [18] Z (KS Z Z) ?_))))))));refine AQ [19] Z (AU Z XR Z Z Z) (Az [20] Z Z (λ_=>A5 (A2 Z Z Z BG Z)) (Av 2 Z Z (Az [21,22] Z Z (λ_=>A5 (Ce (b) Z Z (Z) (g) Z E0 BU Z)) (Az [23] Z Z (λ_=>A5 (D1 Z Z (TL g) Z Aw Z)) (Cg 18 Z Z Z (Ag 19 Z Z (V (UZ f Z [5,6] ⟨Z,Z,trivial⟩ Z Z Z Z Z Z Z Z Z) (AD ⟨Z,?_⟩))))))));refine Ag 20 Z Z (AB Z Z (AD ⟨Z,?_⟩));refine Cr (A4 ?_);exact ⟨_,[1,2,5,6],_,A3 Z,Z,Z,Z,Z⟩
theorem QN (c:List Nat) (l j:List Nat) (a b:Nat) (g:a<l.length) (f:b<l.length):AJ prog 299 [.ptr 1 0 0,.d (AL a),.d (AL b)] (Lj c l j) λr k=>r= .tup []/\k=Lj c (LV l a b) j:=by
 have i:a<(l++j).length:=by rw [Δ];omega
 have h:b<((l++j).set a (e9 l b)).length:=by rw [fq,Δ];omega
 refine As func299 Z Z ntmps299 Z Z Z λF o=>(DB [[],[0],[0,1],[0,1,2],[],[],[5],[5,6],[5,6,7],[],[],[10],[10,11],[10,11,12],[],[10,11,12,13,14],[10,11,12,13,14,15],[],[17],[17,18],[17,18,19],[],[17,18,19,20,21],[17,18,19,20,21,22],[0,1,2,3,4,5,6,7,8,10,11,12,13,14,15,16,17,18,19,20,21,22,23],[0,1,2,3,4,5,6,7,8,10,11,12,13,14,15,16,17,18,19,20,21,22,23,24],rg 26,rg 27] mixed Z (DP (Av 0 Z Z (AQ [6] Z (KS Z Z) (AQ [7] Z (AU Z XR Z Z Z) ?_)))));refine Az [8] Z Z (λ_=>A5 (A2 Z Z Z BG Z)) (Av 1 Z Z (Av 0 Z Z (AQ [11] Z (KS Z Z) (AQ [12] Z (AU Z XR Z Z Z) (Az [13] Z Z (λ_=>A5 (A2 Z Z Z BG Z)) (Av 2 Z Z (Av 0 Z Z (AQ [16] Z (KS Z Z) ?_))))))));refine AQ [17] Z (AU Z XR Z Z Z) (Az [18] Z Z (λ_=>A5 (A2 Z Z Z BG Z)) (Av 2 Z Z (Az [19,20] Z Z (λ_=>A5 (Ce (b) Z Z (Z) (f) Z E0 BU Z)) (Az [21] Z Z (λ_=>A5 (D1 Z Z (TL f) Z Aw Z)) (Av 0 Z Z (AQ [23] Z (KS Z Z) (AQ [24] Z (AU Z XR Z Z Z) (Az [25] Z Z (λ_=>A5 (A2 Z Z Z BG Z)) ?_))))))));refine Av 1 Z Z (Az [26,27] Z Z (λ_=>A5 (Ce (a) Z Z (Z) (g) Z E0 BU Z)) (Az [28] Z Z (λ_=>A5 (D1 Z Z (TL g) Z Aw Z)) (Az [9,10] Z Z (λ_=>A5 (Ce (a) Z Z (Z) (g) Z E0 BU Z)) (Fp [30,22] [2] [] Z Z (λ_=>Fs (Ef (emb:=AL) (l++j) (e9 l b) Z Z Z Z Z Z i Z BU)) (.inl ⟨Z,Z⟩) Z Z Z Z Z (Cg 26 Z Z Z (Ag 27 Z Z (J (Ce (b) Z Z (Z) (f) Z E0 BU Z) (AD ⟨Z,?_⟩))))))));refine Ag 28 Z Z (V (Ef (emb:=AL) ((l++j).set a (e9 l b)) (e9 l a) Z Z Z Z Z Z h Z BU) (AD ⟨Z,?_⟩));refine Cr ?_;exact ⟨_,[1,2,5,6],_,A3 Z,Z,Z,Z,by rw [Lj,Lt,<-tT g f]⟩
theorem bv (a:List Nat) (l j:List Nat) (x:Nat) (c:l.length<=1000000):AJ prog 298 [.ptr 1 0 0,.d (.raw (.iface 3 (.int .i64 (x:Int))))] (Lj a l j) λr b=>r= .tup []/\b=Lj a (l++ [x]) []:=by
 refine As func298 Z Z ntmps298 Z Z Z λF f=>(DB [[],[],[1],[1,2],[1,2,3],[],[5],[5,6],[1,2,3,4,5,6,7],rg 9,rg 10,rg 11] mixed Z (DP (Av 0 Z Z (Av 0 Z Z (AQ [5] Z (KS Z Z) (AQ [6] Z (AU Z XR Z Z Z) ?_))))));refine Az [7] Z Z (λ_=>A5 (A2 Z Z Z BG Z)) (Av 1 Z Z (AQ [9] Z (Mh Z rp Z Z) (Fp [10] [20] [(11,_)] Z Z (λ_=>Fs (D6 20 BV Z Z Z Z Z Z Z Z)) (.inr ⟨11,_,Z,Z,Z,Z,Z⟩) Z Z Z Z Z (Fp [8,11] [1,2,5,6,20] [(12,_)] Z Z (λ_=>Fs (G4 Z Z Z (by simp) Z Z (by simp) BV (by omega) Z Z (mc l j) Z Z)) (.inr ⟨12,_,Z,Z,Z,Z,Z⟩) Z Z Z Z Z (Cg 9 Z Z Z (Ag 10 Z Z (J (KS Z Z) (AD ⟨Z,?_⟩))))))));refine Ag 11 Z Z (J (AU Z XR Z Z Z) (AD ⟨Z,?_⟩));refine Ag 12 Z Z (V (B1 Z Z Z Z Z Z Z CZ) (AD ⟨Z,?_⟩));refine Cr ?_;exact ⟨_,[1,2,5,6],_,A3 Z,Z,Z,Z,by rw [Lj];simp⟩
theorem kY (a:List Nat) (l j:List Nat) (g:l≠ []) (f:l.length<=1000000):AJ prog 297 [.ptr 1 0 0] (Lj a l j) λr i=>r= .d (.raw (.iface 3 (.int .i64 (e9 l (l.length - 1):Int))))/\i=Lj a (l.take (l.length - 1)) ([e9 l (l.length - 1)]++j):=by
 have h:0<l.length:=ic.2 g;have b:((l.length:Int) - 1)=((l.length - 1:Nat):Int):=by omega
 have c:l.length - 1<=((l++j).map AL).length:=by rw [ψ,Δ];omega
 refine As func297 Z Z ntmps297 Z Z Z λF k=>(AC (AE (AB Z Z ?_)));refine AD (AC (DB [[],[0],[0,1],[0,1,2],[],[4],[4,5],[4,5,6],[4,5,6,7],[4,5,6,7,8],rg 10,rg 11,rg 12] mixed Z (DP (Av 0 Z Z (AQ [4] Z (KS Z Z) (AQ [5] Z (AU Z XR Z Z Z) (Az [6] Z Z (λ_=>A5 (A2 Z Z Z BG Z)) (Av 0 Z Z ?_))))))));refine AQ [8] Z (KS Z Z) (AQ [9] Z (AU Z XR Z Z Z) (Az [10] Z Z (λ_=>A5 (A2 Z Z Z BG Z)) (AQ [11] Z (QD Z E0 Z) (AQ [12] Z (RY Z Z (Ω _ (by omega)) Z) (Cg 10 Z Z Z (Ag 11 Z Z (J (Ce (l.length - 1) Z Z (b) (by omega) Z E0 BU Z) (AD ⟨Z,?_⟩))))))));refine Ag 12 Z Z (J (D1 Z Z (TL (by omega)) Z Aw Z) (AD ⟨Z,?_⟩));refine Ag 13 Z Z (AB Z Z (AD ⟨Z,?_⟩));refine Cr (AC ?_);refine DB [[],[],[1],[1,2],[1,2,3],[],[5],[5,6],[5,6,7],[5,6,7,8],[5,6,7,8,9],[1,2,3,4,5,6,7,8,9,10],rg 12,rg 13,rg 14] mixed Z (DP (Av 0 Z Z (Av 0 Z Z (AQ [17] Z (KS Z Z) (AQ [18] Z (AU Z XR Z Z Z) (Az [19] Z Z (λ_=>A5 (A2 Z Z Z BG Z)) (Av 0 Z Z (AQ [21] Z (KS Z Z) ?_))))))));refine AQ [22] Z (AU Z XR Z Z Z) (Az [23] Z Z (λ_=>A5 (A2 Z Z Z BG Z)) (AQ [24] Z (QD Z E0 Z) (AQ [25] Z (RY Z Z (Ω _ (by omega)) Z) (Az [20,26] Z Z (λ_=>A5 (Fx (l.length - 1) Z Z b c Z E0 BU Z)) (Cg 12 Z Z Z (Ag 13 Z Z (J (KS Z Z) (AD ⟨Z,?_⟩))))))));refine Ag 14 Z Z (J (AU Z XR Z Z Z) (AD ⟨Z,?_⟩));refine Ag 15 Z Z (V (B1 Z Z Z Z Z Z Z CZ) (AD ⟨Z,?_⟩));refine Cr (AC (AE (dd Z Z (J (Fg rp Z Z) (AB Z Z (AD (A4 ?_)))))));exact ⟨_,[1,2,5,6],_,A3 Z,Z,Z,Z,by rw [Lj,tl h,Ξ,Nat.min_eq_left (by omega)]⟩
theorem rn (i:Nat) (h:i<=1000000):IntKind.i64.wrap (Int.tdiv ((i:Int) - 1) 2)=(((i - 1) / 2:Nat):Int):=by
 rw [tk];exact Ω _ (by omega)
theorem rD (a:List Nat) (l j:List Nat) (k:Nat) (C:k<l.length) (w:l.length<=1000000) (B:∀x∈l,x<a.length):AJ prog 262 [.ifc 321 none 1 0,.d (AL k)] (Lj a l j) λr E=>r= .tup []/\E=Lj a (Rp (e9 a) k l k) j:=by
 refine As func262 Z Z ntmps262 Z Z Z λF z=>(A0 (BX (α:=Nat×List Nat×Nat) (λq=>⟨23,[(0,.ifc 321 none 1 0),(1,(.d (AL q.2.2)))],Lj a q.2.1 j⟩) (λq=>q.2.2<=q.1/\q.2.2<q.2.1.length/\q.2.1.length<=1000000/\Rp (e9 a) q.1 q.2.1 q.2.2=Rp (e9 a) k l k/\∀x∈q.2.1,x<a.length) (λq=>q.2.2) ((k,l,k)) (⟨ϖ _,C,w,Z,B⟩) (AY z [1,2,5,6] Z Z ⟨Z,Z,trivial⟩) ?_));rintro ⟨f,m,i⟩ ⟨v,c,s,b,o⟩;dsimp only at v c s b⊢;have g:(i - 1) / 2<m.length:=by omega
 refine A0 (AC (AE (dd Z Z (J (RY Z Z (Ω _ (by omega)) Z) (J (nu Z Z (by omega) (rn i (by omega)) Z) (AB Z Z ?_))))));refine AD (AC (AC (AE (dd Z Z (dd Z Z (J (Li Z Z Z) (dd Z Z (Ij 11 Z (λu=>?_) (λu=>?_)))))))))
 .refine A9 Z Z Z Z (A9 Z Z Z Z (A9 Z Z Z Z (A9 Z Z Z Z (A9 Z Z Z Z (J (Ff Z Z Z Z) (AD (DO Z Z (BC ?_))))))));have D:i=0:=by omega
  exact ⟨_,[1,2,5,6],_,A3 Z,Z,Z,Z,by rw [<-b,D,Z9]⟩
 .refine Ad Z Z Z (dd Z Z (Ad Z Z Z (dd Z Z ?_)));refine Ad Z Z Z (dd Z Z (Ad Z Z Z (V (Dx cE (Qd a m j o i ((i - 1) / 2) c g) Z [1,2,5,6] ⟨Z,Z,Z,Z,trivial⟩ Z Z Z Z Z Z Z Z Z) (Ad Z Z Z (J (OX Z Z) (J (EA Z Z Z Z) (AD (Ac Z (λh=>?_) (λh=>?_)))))))))
  .refine BC ?_;exact ⟨_,[1,2,5,6],_,A3 Z,Z,Z,Z,by rw [<-b,Za (by simpa using h)]⟩
  .refine AZ (AC ?_);have y:i≠0:=λe=>by subst e;exact u rfl
   have t:(e9 a) (e9 m i)<(e9 a) (e9 m ((i - 1) / 2)):=Classical.not_not.1 h;refine AE ?_;refine dd Z Z (dd Z Z (dd Z Z (V (Dx cD (QN a m j ((i - 1) / 2) i g c) Z [1,2,5,6] ⟨Z,Z,Z,Z,trivial⟩ Z Z Z Z Z Z Z Z Z) (AD (AE (dd Z Z (AB Z Z (AD ?_))))))));exact ⟨(f - 1,LV m ((i - 1) / 2) i,(i - 1) / 2),⟨by show (i - 1) / 2<=f - 1;omega,by show _<(LV _ _ _).length;rw [Lt];exact g,by show (LV _ _ _).length<=_;rw [Lt];exact s,by show Rp _ (f - 1) _ _=_;rw [<-b,<-na y t,show f - 1+1=f by omega],λx A=>o x ((Ep g c).mem_iff.1 A)⟩,by show (i - 1) / 2<i;omega,AY z [1,2,5,6] Z (Z) ⟨Z,Z,trivial⟩⟩
theorem pv (b:2*j+2<c) (a:K (e9 u (2*j+2))<K (e9 u (2*j+1))):R6 K c u j=2*j+2:=ϱ ⟨b,a⟩
theorem dM (h:¬(2*j+2<c/\K (e9 u (2*j+2))<K (e9 u (2*j+1)))):R6 K c u j=2*j+1:=θ h
theorem lL (a:List Nat) (l j:List Nat) (k n:Nat) (L:k<l.length) (H:n<=l.length) (B:l.length<=1000000) (I:∀x∈l,x<a.length):AJ prog 263 [.ifc 321 none 1 0,.d (AL k),.d (AL n)] (Lj a l j) λr N=>(∃b:Bool,r= .d (Aa b))/\N=Lj a (OD (e9 a) n (n - k) l k) j:=by
 refine As func263 Z Z ntmps263 Z Z Z λF E=>(AC (AE (AB Z Z ?_)));refine AD (AC (AE (dd Z Z (AB Z Z (AD (AC (A0 (BX (α:=Nat×List Nat×Nat) (λq=>⟨48,[(0,.ifc 321 none 1 0),(1,.d (AL k)),(2,.d (AL n)),(7,(.d (AL q.2.2)))],Lj a q.2.1 j⟩) (λq=>n<=q.1+q.2.2/\q.2.2<q.2.1.length/\q.2.1.length<=1000000/\n<=q.2.1.length/\OD (e9 a) n q.1 q.2.1 q.2.2=OD (e9 a) n (n - k) l k/\∀x∈q.2.1,x<a.length) (λq=>n - q.2.2) ((n - k,l,k)) (⟨by show n<=n - k+k;omega,L,B,H,Z,I⟩) (AY E [1,2,5,6] Z Z ⟨Z,Z,Z,Z,trivial⟩) ?_))))))));rintro ⟨f,m,i⟩ ⟨A,g,v,u,c,s⟩;dsimp only at A g v u c⊢;refine A0 (AC (AE (dd Z Z (J (nv Z Z (Ω _ (by omega)) Z) (J (Ar Z Z (Ω _ (by omega)) Z) (AB Z Z (AD ?_)))))));refine AC (AC (eD 8 (.d (AL (2*i+1))) Z (eqv (fL AF (by omega))) (AE (dd Z Z (dd Z Z (J (ES Z Z Z) (dd Z Z (Ij 18 Z (λz=>?_) (λz=>?_)))))))))
 .refine A9 Z Z Z Z (A9 Z Z Z Z (J (Ff Z Z Z Z) (AD (DO Z Z ?_))));refine BC (AC (AE (dd Z Z (dd Z Z (J (Ot Z Z Z) (AB Z Z (AD (A4 ?_))))))));exact ⟨_,[1,2,5,6],_,A3 Z,Z,Z,⟨_,Z⟩,by rw [<-c,lM (by omega)]⟩
 .refine Ad Z Z Z (dd Z Z (Ad Z Z Z (J (BN Z Z Z) (J (EA Z Z Z Z) (AD (D3 Z (fb (by omega)) (AZ (AC ?_))))))));have w:¬n<=2*i+1:=by have:=z;omega
  have M:=pu (K:=(e9 a)) (l:=m) w;have o:R6 (e9 a) n m i<m.length:=by omega
  refine AE ?_;refine dd Z Z (AB Z Z (AD (AC (AC (AE (dd Z Z (J (Ar Z Z (Ω _ (by omega)) Z) (AB Z Z ?_))))))));refine AD (AC (eD 10 (.d (AL (2*i+2))) Z (eqv (fL AF (by omega))) (AE (dd Z Z (dd Z Z (J (BN Z Z Z) (dd Z Z (Ij 28 Z (λD=>?_) (λD=>?_)))))))));refine Ad Z Z Z (dd Z Z ?_);refine Ad Z Z Z (dd Z Z (Ad Z Z Z (dd Z Z (Ad Z Z Z (V (Dx cE (Qd a m j s (2*i+2) (2*i+1) (by omega) (by omega)) Z [1,2,5,6] ⟨Z,Z,Z,Z,trivial⟩ Z Z Z Z Z Z Z Z Z) (J (Ff Z Z Z Z) (AD (Ac Z (λC=>?_) (λC=>?_)))))))));refine AE (dd Z Z (AB Z Z (AD ?_)))
  rotate_left
  refine AZ ?_
  rotate_left
  refine A9 Z Z Z Z (A9 Z Z Z Z (A9 Z Z Z Z (A9 Z Z Z Z (J (EA Z Z Z Z) (AD (D3 Z Z (AZ ?_)))))))
  all_goals
   refine AC (AC ?_);refine eD 9 (.d (AL (R6 (e9 a) n m i))) Z (eqv (fL AL (by first | exact (pv (by omega) (by assumption)).symm | exact (dM (λh=>by omega)).symm | exact (dM (λh=>absurd h.2 (by assumption))).symm))) (AE (dd Z Z (dd Z Z (dd Z Z (V (Dx cE (Qd a m j s (R6 (e9 a) n m i) i o g) Z [1,2,5,6] ⟨Z,Z,Z,Z,trivial⟩ Z Z Z Z Z Z Z Z Z) (J (OX Z Z) (AD (Ac Z (λt=>?_) (λt=>?_)))))))))
   .refine BC (AC (AE (dd Z Z (dd Z Z (J (Ot Z Z Z) (AB Z Z (AD (A4 ?_))))))));exact ⟨_,[1,2,5,6],_,A3 Z,Z,Z,⟨_,Z⟩,by rw [<-c,dN t]⟩
   .refine AZ (AC ?_);have y:(e9 a) (e9 m (R6 (e9 a) n m i))<(e9 a) (e9 m i):=Classical.not_not.1 t;refine AE ?_;refine dd Z Z (dd Z Z (dd Z Z (V (Dx cD (QN a m j i (R6 (e9 a) n m i) g o) Z [1,2,5,6] ⟨Z,Z,Z,Z,trivial⟩ Z Z Z Z Z Z Z Z Z) (AD (AE (dd Z Z (AB Z Z (AD ?_))))))));exact ⟨(f - 1,LV m i (R6 (e9 a) n m i),R6 (e9 a) n m i),⟨by show n<=f - 1+R6 _ n m i;omega,by show _<(LV _ _ _).length;rw [Lt];exact o,by show (LV _ _ _).length<=_;rw [Lt];exact v,by show _<=(LV _ _ _).length;rw [Lt];exact u,by show OD _ n (f - 1) _ _=_;rw [<-c,<-pw w y,show f - 1+1=f by omega],λx G=>s x ((Ep g o).mem_iff.1 G)⟩,by show n - R6 _ n m i<n - i;omega,AY E [1,2,5,6] Z (Z) ⟨Z,Z,Z,Z,trivial⟩⟩
theorem TC (a:List Nat) (l j:List Nat) (x:Nat) (h:l.length<=999999) (i:∀x∈l,x<a.length)  (g:x<a.length):AJ prog 222 [.ifc 321 none 1 0,.d (.raw (.iface 3 (.int .i64 (x:Int))))] (Lj a l j) λr k=>r= .tup []/\k=Lj a (L6 (e9 a) l x) []:=by
 have c:(l++ [x]).length=l.length+1:=by simp
 have b:((l.length+1:Nat):Int) - 1=((l.length:Nat):Int):=by omega
 refine As func222 Z Z ntmps222 Z Z Z λF o=>(AC (AE (dd Z Z (dd Z Z (V (Dx sT (bv a l j x (by omega)) Z [1,2,5,6] ⟨Z,Z,Z,Z,trivial⟩ Z Z Z Z Z Z Z Z Z) ?_)))));refine AD (AE (dd Z Z (dd Z Z (V (Dx sU (VL a (l++ [x]) []) Z [1,2,5,6] ⟨Z,Z,Z,Z,trivial⟩ Z Z Z Z Z Z Z Z Z) (J (RY Z Z (Ω _ (by omega)) Z) (Oc 10 (.d (AL l.length)) Z (eqv (fL AF (by rw [c];exact b))) (V (EX (rD a (l++ [x]) [] l.length (by omega) (by omega) (λy f=>(ν.1 f).elim (i y) λe=>ζ.1 e▸g)) Z [1,2,5,6] ⟨Z,Z,Z,Z,trivial⟩ Z Z Z Z Z Z Z Z Z) (AD ?_))))))));exact ⟨_,[1,2,5,6],_,A3 Z,Z,Z,Z,Z⟩
theorem km (a:List Nat) (l j:List Nat) (f:l≠ []) (s:l.length<=999999) (t:∀x∈l,x<a.length):AJ prog 224 [.ifc 321 none 1 0] (Lj a l j) λr u=>r= .d (.raw (.iface 3 (.int .i64 (e9 l 0:Int))))/\u=Lj a (Oi (e9 a) l) ([e9 l 0]++j):=by
 have i:0<l.length:=ic.2 f;have o:=Lt l 0 (l.length - 1);have c:=Gk (e9 a) f;have g:Jo (e9 a) l≠ []:=λe=>by rw [e] at c;simp at c;omega
 have b:e9 (Jo (e9 a) l) ((Jo (e9 a) l).length - 1)=e9 l 0:=by rw [c];exact Nj (e9 a) f
 have h:=(lL a (LV l 0 (l.length - 1)) j 0 (l.length - 1) (by omega) (by omega) (by omega) (λy k=>t y ((Ep i (by omega)).mem_iff.1 k))).top;refine As func224 Z Z ntmps224 Z Z Z λF v=>(AC (AE (AB Z Z (AD ?_))));refine AC (AE (dd Z Z (V (Dx sU (VL a l j) Z [1,2,5,6] ⟨Z,Z,Z,Z,trivial⟩ Z Z Z Z Z Z Z Z Z) (J (RY Z Z (Ω _ (by omega)) Z) (AB Z Z (AD (AC (eD 3 (.d (AL (l.length - 1))) Z (eqv (fL AF (by omega))) ?_))))))));refine AE (dd Z Z (dd Z Z (V (Dx cD (QN a l j 0 (l.length - 1) i (by omega)) Z [1,2,5,6] ⟨Z,Z,Z,Z,trivial⟩ Z Z Z Z Z Z Z Z Z) (AD (AC (AE (dd Z Z (dd Z Z ?_))))))));refine V (EX h Z [1,2,5,6] ⟨Z,Z,Z,Z,trivial⟩ Z Z Z Z Z Z Z Z Z) (AD (AC (AE (dd Z Z (V (Dx uA (kY a (Jo (e9 a) l) j g (by omega)) Z [1,2,5,6] ⟨Z,Z,Z,Z,trivial⟩ Z Z Z Z Z Z Z Z Z) (AB Z Z (AD (A4 ?_))))))));exact ⟨_,[1,2,5,6],_,A3 Z,Z,Z,by rw [b],by rw [b,c];rfl⟩
theorem bP (c:List Nat) (g:List (List Nat)) (K:GB g) (hK:∀a b,a<g.length ->b<g.length ->(e9 c) a=(e9 c) b ->a=b) (u:g.length=c.length):AJ prog 181 [.d (L7 g),.fn 182 [.ptr 5 0 0]] (HL c) λr H'=>r= .d (.tup [en (gB g (e9 c)),Aa (decide ((gB g (e9 c)).length=g.length))])/\H'=(HL c):=by
 have hn:=K.n;refine As func181 Z Z ntmps181 Z Z Z λF v=>(AC (AE (AB Z Z (AB Z Z (AD ?_)))));refine AC (AE (dd Z Z (J (Ii Z (ψ ..) Qs Z) (V (E5 0 BV Z Z Z (by omega) n4 Z Z Z Z) (AB Z Z (AD (AC (AC ?_))))))));rw [r9];refine AE (dd Z Z (J (Ii Z (ψ ..) Qs Z) (dd Z Z (AD (A0 (BX (α:=Nat×List Nat) (λq=>⟨102,[(0,.d (L7 g)),(1,.fn 182 [.ptr 5 0 0]),(6,(.own 0 0 g.length)),(21,(.d (L7 g))),(22,(.d (AL g.length))),(23,(.d (AL q.1)))],[(0,[.rowD 3 1 (q.2.map AL)])]++HL c⟩) (λq=>q.1<=g.length/\CW g q.1 0 q.2) (λq=>g.length - q.1) ((0,List.replicate g.length 0)) (⟨υ _,lQ g⟩) (AY v [0,5,6] Z Z ⟨Z,Z,Z,Z,Z,Z,trivial⟩) ?_))))));rintro ⟨i,w⟩ ⟨hi,D⟩;dsimp only at hi D⊢;refine AC (AE (J (BN Z Z Z) (AD (AC (Ac Z (λR=>?_) (λR=>?_))))))
 .refine AZ (AC (A0 (AC ?_)));have h:i<g.length:=Ba R;have hsl:=K.len h;refine AE (J (Bh (i) Z Z (Z) (Ym h) Qs Z CZ Z) (J (D2 Z Z BG Z) (AB Z Z ?_)));refine AD (AC (AE (dd Z Z (J (Ii Z (ψ ..) E0 Z) (dd Z Z (AD (A0 (BX (α:=Nat×List Nat) (λq=>⟨102,[(0,.d (L7 g)),(1,.fn 182 [.ptr 5 0 0]),(6,(.own 0 0 g.length)),(21,(.d (L7 g))),(22,(.d (AL g.length))),(23,(.d (AL i))),(27,(.d (en (eW g i)))),(28,(.d (AL (eW g i).length))),(29,(.d (AL q.1)))],[(0,[.rowD 3 1 (q.2.map AL)])]++HL c⟩) (λq=>q.1<=(eW g i).length/\CW g i q.1 q.2) (λq=>(eW g i).length - q.1) ((0,w)) (⟨υ _,D⟩) (AY v [0,5,6] Z Z ⟨Z,Z,Z,Z,Z,Z,Z,Z,Z,trivial⟩) ?_))))))));rintro ⟨k,w⟩ ⟨hk,D⟩;dsimp only at hk D⊢;refine AC (AE (J (BN Z Z Z) (AD (AC (Ac Z (λQ=>?_) (λQ=>?_))))))
  .refine AZ (AC (A0 (AC ?_)));have s:k<(eW g i).length:=Ba Q;have B:=lR K D h s;have u:e9 (eW g i) k<g.length:=by rw [<-D.len];exact B.1
   refine AE ?_;refine J (Bh (k) Z Z (Z) (Nn s) E0 Z BU Z) (J (D2 Z Z Aw Z) (AB Z Z (AD (AE (dd Z Z (dd Z Z (J (Ce (e9 (eW g i) k) Z Z (Z) (u) Z E0 BU Z) (J (D1 Z Z (Nn B.1) Z Aw Z) ?_))))))));refine J (Ar Z Z (Ω _ (by omega)) Z) (Oc 37 (.d (AL (e9 w (e9 (eW g i) k)+1))) Z (eqv (fL AF (by omega))) (J (Ce (e9 (eW g i) k) Z Z (Z) (u) Z E0 BU Z) (V (Ef (emb:=AL) w (e9 w (e9 (eW g i) k)+1) Z Z Z Z Z Z B.1 Z BU) (AD (AE (J (Ar Z Z (Ω _ (by omega)) Z) (dd Z Z (AD ?_))))))));exact ⟨(k+1,w.set (e9 (eW g i) k) (e9 w (e9 (eW g i) k)+1)),⟨s,B.2.2⟩,by show (eW g i).length - (k+1)<(eW g i).length - k;omega,AY v [0,5,6] Z (Z) ⟨Z,Z,Z,Z,Z,Z,Z,Z,Z,trivial⟩⟩
  .refine BC ?_;have hke:k=(eW g i).length:=by have:=Q;omega
   subst hke;refine AE (J (Ar Z Z (Ω _ (by omega)) Z) (dd Z Z (AD ?_)));exact ⟨(i+1,w),⟨h,qD D⟩,by show g.length - (i+1)<g.length - i;omega,AY v [0,5,6] Z (Z) ⟨Z,Z,Z,Z,Z,Z,trivial⟩⟩
 .refine BC (AC ?_);have I:i=g.length:=by have:=R;omega
  subst I;obtain ⟨X,hwd⟩:=qE D;refine AE (dd Z Z (J (Fe qu rv Z Z Z) (V (jk 1 Z Z Z Z Z Z Z) (AB Z Z (AD (AC ?_))))));refine AC (Cp 1 0 0 2 BV Z Z Z Z Z Z Z (AE (dd Z Z (J (QD Z E0 Z) (dd Z Z (AD (A0 (BX (α:=Nat×List Nat×List Nat) (λq=>⟨102,[(0,.d (L7 g)),(1,.fn 182 [.ptr 5 0 0]),(6,(.own 0 0 g.length)),(11,(.ptr 1 0 0)),(44,(.own 0 0 g.length)),(45,(.d (AL g.length))),(46,(.d (AL q.1)))],Lj c q.2.1 q.2.2++ [(0,[.rowD 3 1 (w.map AL)])]⟩) (λq=>q.1<=g.length/\FI (e9 c) w q.1 q.2.1) (λq=>g.length - q.1) ((0,[],[])) (⟨υ _,kt _ w⟩) (AY v [1,2,5,6,0] Z Z ⟨Z,Z,Z,Z,Z,Z,Z,trivial⟩) ?_))))))));rintro ⟨i,l,j⟩ ⟨hi,E⟩;dsimp only at hi E⊢;have hfl:=E.le;refine AC (AE (J (BN Z Z Z) (AD (AC (Ac Z (λP=>?_) (λP=>?_))))))
  .refine AZ (AC (A0 (AC ?_)));have h:i<g.length:=Ba P;refine AE (dd Z Z (J (Ce (i) Z Z (Z) (h) Z E0 BU Z) (J (D1 Z Z (Nn (by rw [X];exact h)) Z Aw Z) ?_)));refine AB Z Z (AB Z Z (AD (AC (AE (dd Z Z (J (Li Z Z Z) (AD (Ac Z (λO=>?_) (λO=>?_)))))))))
   .refine AE (dd Z Z ?_);refine J (G2 au Z Z) (dd Z Z (J (Fg rp Z Z) (V (EX (TC c l j i (by omega) (λx H=>by rw [<-u];have:=((E.mem x).1 H).1;omega) (by rw [<-u];exact h)) Z [1,2,5,6] ⟨Z,Z,Z,Z,trivial⟩ Z Z Z Z Z Z Z Z Z) (AD (AE (J (Ar Z Z (Ω _ (by omega)) Z) (dd Z Z (AD ?_))))))));exact ⟨(i+1,L6 (e9 c) l i,[]),⟨h,kx E (Int.ofNat.inj O)⟩,by show g.length - (i+1)<g.length - i;omega,AY v [1,2,5,6,0] Z (Z) ⟨Z,Z,Z,Z,Z,Z,Z,trivial⟩⟩
   .refine AZ (AE (J (Ar Z Z (Ω _ (by omega)) Z) (dd Z Z (AD ?_))));exact ⟨(i+1,l,j),⟨h,kw E (λe=>O (fL Int.ofNat e))⟩,by show g.length - (i+1)<g.length - i;omega,AY v [1,2,5,6,0] Z (Z) ⟨Z,Z,Z,Z,Z,Z,Z,trivial⟩⟩
  .refine BC (AC ?_);have I:i=g.length:=by have:=P;omega
   subst I;have hoi:=kS X hwd E.nd E.mem E.hp;refine AE (AB Z Z (AD (AC (A0 (Ou 14 7 BV Z Z Z Z (BX (α:=List Nat×List Nat×List Nat×List Nat) (λq=>⟨102,[(0,.d (L7 g)),(1,.fn 182 [.ptr 5 0 0]),(6,(.own 0 0 g.length)),(11,(.ptr 1 0 0)),(14,(.own 7 0 q.2.2.2.length))],Lj c q.2.1 q.2.2.1++ [(0,[.rowD 3 1 (q.1.map AL)]),(7,[.rowD 3 1 (q.2.2.2.map AL)])]⟩) (λq=>OI g (e9 c) q.1 q.2.1 q.2.2.2 []) (λq=>g.length - q.2.2.2.length) ((w,l,j,[])) (hoi) (AY v [1,2,5,6,0,7] Z Z ⟨Z,Z,Z,Z,Z,trivial⟩) ?_))))));rintro ⟨w,l,j,f⟩ S;dsimp only at S⊢;have hol:=nE S;refine AC (AC (AE (dd Z Z (V (EX (VL c l j) Z [1,2,5,6] ⟨Z,Z,Z,Z,trivial⟩ Z Z Z Z Z Z Z Z Z) (J (Ot Z Z Z) (AD (Ac Z (λN=>?_) (λN=>?_))))))))
   .refine AZ (A0 (AC ?_));have C:l≠ []:=λe=>by subst e;exact absurd N (by decide)
    have ho1:=o0 S C;have H:e9 l 0<g.length:=S.lt _ (ν.2 (.inr (DZ (ic.2 C))));have hol1:f.length+1<=g.length:=by have:=ic.2 C;omega
    refine AE (dd Z Z (J (G2 au Z Z) (V (EX (km c l j C (by omega) (λz hz=>by rw [<-u];exact S.lt z (ν.2 (.inr hz)))) Z [1,2,5,6] ⟨Z,Z,Z,Z,trivial⟩ Z Z Z Z Z Z Z Z Z) (J (Mh Z rp Z Z) (AB Z Z (AD (AC ?_)))))))
    obtain ⟨x,hxe⟩:∃x,e9 l 0=x:=⟨_,Z⟩
    rw [hxe] at ho1 H⊢;refine AE (dd Z Z (dd Z Z (V (D6 21 BV Z Z Z Z Z Z Z Z) (V (H1 (emb:=AL) f [x] Z Z Z Z Z Z Z Z BV (by show (f.length+1)*8<=_;omega) Z Z Z Z) (AB Z Z (AD (AC (AE ?_))))))));refine dd Z Z (dd Z Z (J (Bh (x) Z Z (Z) (Ym H) Qs Z CZ Z) (J (D2 Z Z BG Z) (J (Ii Z (ψ ..) E0 Z) (dd Z Z (AD (A0 (BX (α:=Nat×List Nat×List Nat×List Nat) (λq=>⟨102,[(0,.d (L7 g)),(1,.fn 182 [.ptr 5 0 0]),(6,(.own 0 0 g.length)),(11,(.ptr 1 0 0)),(14,(.own 7 0 (f++ [x]).length)),(73,(.d (en (eW g x)))),(74,(.d (AL (eW g x).length))),(75,(.d (AL q.1)))],Lj c q.2.2.1 q.2.2.2++ [(0,[.rowD 3 1 (q.2.1.map AL)]),(7,[.rowD 3 1 ((f++ [x]).map AL)])]⟩) (λq=>q.1<=(eW g x).length/\OI g (e9 c) q.2.1 q.2.2.1 (f++ [x]) ((eW g x).drop q.1)) (λq=>(eW g x).length - q.1) ((0,w,Oi (e9 c) l,[x]++j)) (⟨υ _,ho1⟩) (AY v [1,2,5,6,0,7] Z Z ⟨Z,Z,Z,Z,Z,Z,Z,Z,trivial⟩) ?_))))))));rintro ⟨k,w,l,j⟩ ⟨hk,o⟩;dsimp only at hk o⊢;refine AC (AE (J (BN Z Z Z) (AD (AC (Ac Z (λM=>?_) (λM=>?_))))))
    .refine AZ (AC (A0 (AC ?_)));have s:k<(eW g x).length:=Ba M;have hsl2:=K.len H;have t:e9 (eW g x) k<g.length:=K.suc H (DZ s);rw [dJ s] at o;obtain ⟨hw1,U,T⟩:=o5 o t;have Y:=nE o;have W:=o.len;have hgn:=Nn s
     obtain ⟨y,hye⟩:∃y,e9 (eW g x) k=y:=⟨_,Z⟩
     rw [hye] at t hw1 U T hgn o;have G:y<w.length:=by rw [W];exact t
     have hwb:e9 w y<=100000000000:=by have:=oY K o t (by rw [List.length_drop];have:=K.len H;omega);omega
     refine AE (J (Bh (k) Z Z (Z) (hgn) E0 Z BU Z) (J (D2 Z Z Aw Z) (AB Z Z (AD (AC (AE ?_))))));refine dd Z Z (dd Z Z (J (Ce (y) Z Z (Z) (t) Z E0 BU Z) (J (D1 Z Z (Nn G) Z Aw Z) (J (RY Z Z (Ω _ (by omega)) Z) (Oc 83 (.d (AL (e9 w y - 1))) Z (eqv (fL AF (by omega))) (J (Ce (y) Z Z (Z) (t) Z E0 BU Z) (V (Ef (emb:=AL) w (e9 w y - 1) Z Z Z Z Z Z G Z BU) (AD ?_))))))));refine AC (AE (dd Z Z (dd Z Z (J (Ce (y) Z Z (Z) (t) Z E0 BU Z) (J (D1 Z Z (pR G) Z Aw Z) (J (Li Z Z Z) (AD (Ac Z (λL=>?_) (λL=>?_)))))))))
     .have A:e9 w y - 1=0:=Int.ofNat.inj L;refine AE (dd Z Z ?_);refine J (G2 au Z Z) (dd Z Z (J (Fg rp Z Z) (V (EX (TC c l j y (by rw [Δ,Φ] at Y;omega) (λz hz=>by rw [<-u];exact o.lt z (ν.2 (.inr hz))) (by rw [<-u];exact t)) Z [1,2,5,6] ⟨Z,Z,Z,Z,trivial⟩ Z Z Z Z Z Z Z Z Z) (AD (AE (J (Ar Z Z (Ω _ (by omega)) Z) (dd Z Z (AD ?_))))))));exact ⟨(k+1,w.set y (e9 w y - 1),L6 (e9 c) l y,[]),⟨s,U A⟩,by show (eW g x).length - (k+1)<(eW g x).length - k;omega,AY v [1,2,5,6,0,7] Z (Z) ⟨Z,Z,Z,Z,Z,Z,Z,Z,trivial⟩⟩
     .have A:e9 w y - 1≠0:=λe=>L (fL Int.ofNat e);refine AZ (AE (J (Ar Z Z (Ω _ (by omega)) Z) (dd Z Z (AD ?_))));exact ⟨(k+1,w.set y (e9 w y - 1),l,j),⟨s,T A⟩,by show (eW g x).length - (k+1)<(eW g x).length - k;omega,AY v [1,2,5,6,0,7] Z (Z) ⟨Z,Z,Z,Z,Z,Z,Z,Z,trivial⟩⟩
    .refine BC ?_;exact ⟨(w,l,j,f++ [x]),oZ o (show k=(eW g x).length by have:=M;omega),by show g.length - (f++ [x]).length<g.length - f.length;rw [Δ,Φ];omega,AY v [1,2,5,6,0,7] Z (Z) ⟨Z,Z,Z,Z,Z,trivial⟩⟩
   .refine BC (AC ?_);have hl0:l=[]:=List.length_eq_zero_iff.1 (by have:=N;omega);have hE:=o4 (hl0▸S);have hoe:=kL hK hE.1 hE.2;refine Ls (emb:=AL) 14 7 f Z Z Z Z Z Z Z (AE (dd Z Z ?_));refine dd Z Z (J (CB Z E0 Z) (dd Z Z (J (CB Z Qs Z) (J (Li Z Z Z) (AB Z Z (AB Z Z (AD (A4 ?_))))))));exact ⟨_,[5,6],_,A3 Z,Z,Z,by rw [hoe];exact fL (λb=>AV.d (.tup [en f,Aa b])) (decide_eq_decide.2 Int.ofNat_inj),Z⟩
theorem Td (g:List (List Nat)) (U:GT g):AJ prog 134 [.d (L7 g)] [] λr H'=>∃of cnt,gH g.length (eW g) of cnt/\r= .tup [.own 10 0 cnt,.d (en ((List.range g.length).map λv=>fT g of cnt (of v)))]/\H'=[(10,[.rowD 28 1 ((co cnt (FU (λv=>fT g of cnt (of v)) g.length)).map en)])]:=by
 have hn:=U.gb.n;refine As func134 Z Z ntmps134 Z Z Z λF A=>(AC (AE (AB Z Z (AB Z Z (AD (AC (AE (dd Z Z ?_))))))));refine RX (UY (Te g U.gb) Z [2] ⟨Z,trivial⟩ Z Z Z Z (λr H' ⟨of,cnt,h1,h2,h3⟩=>by subst h2 h3;exact ⟨Z,Z,Z⟩) Z) Z ?_;rintro _ ⟨r,H',⟨of,cnt,t,rfl,rfl⟩,rfl⟩;refine dd Z Z (J (Cf Z Z Z) (J (Cf Z Z Z) (AB Z Z (AB Z Z (AD (AC ?_))))));have hcn:=t.le;refine AE (dd Z Z (V (E5 6 BV Z Z Z (by omega) n4 Z Z Z Z) (V (Bn 5 qv Z Z Z Z) (V (B1 Z Z Z Z Z Z Z CZ) (AD (AC (AC ?_)))))));rw [oL];refine AE (dd Z Z (J (Ii Z (ψ ..) Qs Z) (J (RY Z Z (Ω _ (by omega)) Z) (Oc 29 (.d (AF ((g.length:Int) - 1 - ((0:Nat):Int)))) Z (eqv (fL AF (by omega))) (AB Z Z (AD (A0 (BX (α:=Nat) (λd=>⟨142,[(0,.d (L7 g)),(4,(.own 2 0 g.length)),(5,(.d (AL cnt))),(6,(.ptr 5 0 0)),(7,(.d (AF ((g.length:Int) - 1 - (d:Int)))))],[(2,[.rowD 3 1 (rowN g.length of)]),(5,[.blk 28 [.own 6 0 cnt]]),(6,[.rowD 3 1 (rowN cnt (jL of g.length d))])]⟩) (λd=>d<=g.length) (λd=>g.length - d) (0) (υ _) (AY A [2,5,6] Z Z ⟨Z,Z,Z,Z,Z,trivial⟩) ?_))))))));intro d hd;refine AC (AC (AE (dd Z Z (J (ES Z Z Z) (AD (Ac Z (λh31=>?_) (λh31=>?_)))))))
 .refine AZ (AC (A0 ?_));have P:g.length - 1 - d<g.length:=by omega
  refine eD 7 (.d (AL (g.length - 1 - d))) Z (eqv (fL AF (by omega))) ?_;have hoc:=t.lt _ P;refine DB [[],[],[],[1,2],[1,2,3],[],rg 6,rg 7] mixed Z (DP (Az [6] Z Z (λ_=>A5 (A2 Z Z Z BG Z)) ?_));refine Av 4 Z Z (Av 7 Z Z (Az [35,36] Z Z (λ_=>A5 (Ce (g.length - 1 - d) Z Z (Z) (P) Z E0 BU Z)) (Az [37] Z Z (λ_=>A5 (D1 Z Z (MW P) Z Aw Z)) (Av 7 Z Z (Cg 6 Z Z Z (Ag 7 Z Z (J (Ce (of (g.length - 1 - d)) Z Z (Z) (hoc) Z E0 BU Z) (AD ⟨Z,?_⟩))))))));refine Ag 8 Z Z (V (XW Z Z Z Z Z (by rw [DV];exact hoc) DU Z BU) (AD ⟨Z,?_⟩));refine Cr (AE (dd Z Z (J (RY Z Z (Ω _ (by omega)) Z) (Oc 33 (.d (AF ((g.length:Int) - 1 - ((d+1:Nat):Int)))) Z (eqv (fL AF (by omega))) (AB Z Z (AD ?_))))));exact ⟨d+1,by omega,by omega,AY A [2,5,6] Z (Z) ⟨Z,Z,Z,Z,Z,trivial⟩⟩
 .refine BC (AC ?_);have hdn:d=g.length:=by omega
  subst hdn;refine AE (dd Z Z (V (E5 7 WL Z Z Z (by omega) rC Z Z Z Z) (AB Z Z (AD (AC (AC ?_))))));refine QB 7 0 (gJ cnt (λ_=>none) (λ_=> [])) Z (by rw [FA,List.length_replicate]) (Sd cnt) ⟨WW _,J6 _ _ _⟩ Z (Fc 40 Z Z Z (AE (dd Z Z (J (Ii Z (ψ ..) Qs Z) (dd Z Z (AD (A0 (BX (α:=Nat×MF×(Nat ->Hd)) (λq=>⟨142,[(0,.d (L7 g)),(4,(.own 2 0 g.length)),(5,(.d (AL cnt))),(6,(.ptr 5 0 0)),(8,(.own 7 0 cnt)),(43,(.d (L7 g))),(44,(.d (AL g.length))),(45,(.d (AL q.1)))],[(2,[.rowD 3 1 (rowN g.length of)]),(5,[.blk 28 [.own 6 0 cnt]]),(6,[.rowD 3 1 (rowN cnt (jL of g.length g.length))]),(7,[.rowD 28 1 (gJ cnt q.2.2 (MQ g of q.1 0))]),(40,[.multi q.2.1])]⟩) (λq=>q.1<=g.length/\Lv q.2.1 cnt q.2.2 (MQ g of q.1 0)) (λq=>g.length - q.1) ((0,λ_=>none,λ_=>none)) (⟨υ _,by rw [dD];exact Lv.zero _⟩) (AY A [2,5,6,7,40] Z Z ⟨Z,Z,Z,Z,Z,Z,Z,Z,trivial⟩) ?_))))))));rintro ⟨i,M,G⟩ ⟨hi,z⟩;dsimp only at hi z⊢;refine AC (AE (J (BN Z Z Z) (AD (AC (Ac Z (λT=>?_) (λT=>?_))))))
  .refine AZ (AC (A0 (AC ?_)));have l:i<g.length:=Ba T;have s:=t.lt i l;refine AE (dd Z Z (J (Bh (i) Z Z (Z) (Ym l) Qs Z CZ Z) (J (D2 Z Z BG Z) (AB Z Z (AB Z Z ?_)))));refine AD (AC (AE (dd Z Z (J (Ii Z (ψ ..) E0 Z) (dd Z Z (AD (A0 (BX (α:=Nat×MF×(Nat ->Hd)) (λq=>⟨142,[(0,.d (L7 g)),(4,(.own 2 0 g.length)),(5,(.d (AL cnt))),(6,(.ptr 5 0 0)),(8,(.own 7 0 cnt)),(9,(.d (AL i))),(43,(.d (L7 g))),(44,(.d (AL g.length))),(45,(.d (AL i))),(50,(.d (en (eW g i)))),(51,(.d (AL (eW g i).length))),(52,(.d (AL q.1)))],[(2,[.rowD 3 1 (rowN g.length of)]),(5,[.blk 28 [.own 6 0 cnt]]),(6,[.rowD 3 1 (rowN cnt (jL of g.length g.length))]),(7,[.rowD 28 1 (gJ cnt q.2.2 (MQ g of i q.1))]),(40,[.multi q.2.1])]⟩) (λq=>q.1<=(eW g i).length/\Lv q.2.1 cnt q.2.2 (MQ g of i q.1)) (λq=>(eW g i).length - q.1) ((0,M,G)) (⟨υ _,z⟩) (AY A [2,5,6,7,40] Z Z ⟨Z,Z,Z,Z,Z,Z,Z,Z,Z,Z,Z,Z,trivial⟩) ?_))))))));rintro ⟨k,M,G⟩ ⟨hk,z⟩;dsimp only at hk z⊢;refine AC (AE (J (BN Z Z Z) (AD (AC (Ac Z (λS=>?_) (λS=>?_))))))
   .refine AZ (AC (A0 (AC ?_)));have o:k<(eW g i).length:=Ba S;have hgn:=Nn o;have hsl:=U.gb.len l;have D:e9 (eW g i) k<g.length:=U.gb.suc l (DZ o);have H:=dE (of:=of) o;have I:=dF (of:=of) o
    obtain ⟨j,hje⟩:∃j,e9 (eW g i) k=j:=⟨_,Z⟩
    rw [hje] at hgn D H I;have hln:=Wz g of i k (of i);have hlt:=fO (Oz g (Nat.le_of_lt l)) U.tot;have hlt2:((eW g i).take k).length<=1048576:=by rw [Ξ];omega
    refine AE (J (Bh (k) Z Z (Z) (hgn) E0 Z BU Z) ?_);refine J (D2 Z Z Aw Z) (AB Z Z (AD (AC (DB [[],[],[0,1],[0,1,2],[],[],[4,5],[4,5,6],rg 8] mixed Z (DP (Av 4 Z Z (Av 9 Z Z (Az [56,57] Z Z (λ_=>A5 (Ce (i) Z Z (Z) (l) Z E0 BU Z)) ?_))))))));refine Az [58] Z Z (λ_=>A5 (D1 Z Z (MW l) Z Aw Z)) (Av 4 Z Z (Av 12 Z Z (Az [60,61] Z Z (λ_=>A5 (Ce (j) Z Z (Z) (D) Z E0 BU Z)) (Az [62] Z Z (λ_=>A5 (D1 Z Z (MW D) Z Aw Z)) (Cg 8 Z Z Z (Ag 9 Z Z (J (D7 Z Z Z) (AD ⟨Z,?_⟩))))))));refine Cr (Ac Z (λR=>?_) (λR=>?_))
    .have w:=H (λe=>R (fL Int.ofNat e));refine DB [[],[],[],[1,2],[1,2,3],[],[],[],[6,7],[6,7,8],[5,6,7,8,9],[5,6,7,8,9,10],[],[],[12,13],[12,13,14],[12,13,14,15],[5,6,7,8,9,10,11,12,13,14,15,16],rg 18,rg 19] mixed Z (DP (Av 8 Z Z (Av 4 Z Z (Av 9 Z Z (CK [66,67] [2] Z Z (λ_=>A5 (Ce (i) Z Z (Z) (l) Z E0 BU Z)) (CK [68] [2] Z Z (λ_=>A5 (D1 Z Z (MW l) Z Aw Z)) ?_))))));refine Av 8 Z Z (Av 4 Z Z (Av 9 Z Z (CK [71,72] [2] Z Z (λ_=>A5 (Ce (i) Z Z (Z) (l) Z E0 BU Z)) (CK [73] [2] Z Z (λ_=>A5 (D1 Z Z (MW l) Z Aw Z)) (CK [70,74] [7] Z Z (λ_=>A5 (Ce (of i) Z Z (Z) (s) Z Qs CZ Z)) (CK [75] [7] Z Z (λ_=>A5 (D1 Z Z (JY s) Z BG Z)) (Av 4 Z Z (Av 12 Z Z ?_))))))));refine CK [77,78] [2] Z Z (λ_=>A5 (Ce (j) Z Z (Z) (D) Z E0 BU Z)) (CK [79] [2] Z Z (λ_=>A5 (D1 Z Z (MW D) Z Aw Z)) (Fp [80] [21] [(81,_)] Z Z (λ_=>Fs (D6 21 BV Z Z Z Z Z Z Z Z)) (.inr ⟨81,_,Z,Z,Z,Z,Z⟩) Z Z Z Z Z (Fp [76,81] [60,40,21] [(82,_)] Z Z (λ_=>Fs (G5 76 60 40 (z.at_ (of i) s) Z Z (by rw [ψ]) Z Z Z Z Z (H1 (emb:=AL) (MQ g of i k (of i)) [of j] Z Z Z Z Z Z Z Z BV (by show ((MQ g of i k (of i)).length+1)*8<=_;omega) Z Z Z Z))) (.inr ⟨82,_,Z,Z,Z,Z,Z⟩) Z Z Z Z Z (Cg 18 Z Z Z (Ag 19 Z Z (Ei 82 60 40 A Z Z Z (by rw [ψ]) (by simp) Z Z Z Z Z Z Z (λ_ _=>rfl) λb c hb hc=>(J (Ce (of i) Z Z (Z) (s) Z Qs CZ Z) (AD ⟨Z,?_⟩))))))));refine Ag 20 Z Z (V (XW Z Z Z Z Z (by rw [FA];exact s) (SI (h:=some (b,c))) Z CZ) (AD ⟨Z,?_⟩));refine Cr (AE (J (Ar Z Z (Ω _ (by omega)) Z) (dd Z Z (AD ?_))));exact ⟨(k+1,BJ (BZ M (G (of i))) b (.row 3 1 c ((MQ g of i k (of i)++ [of j]).map AL)),An G (of i) (some (b,c))),⟨o,by have:=z.app s hb hc;rw [w] at this;exact this⟩,by show (eW g i).length - (k+1)<(eW g i).length - k;omega,AY A [2,5,6,7,40] Z (by rw [w];rfl) ⟨Z,Z,Z,Z,Z,Z,Z,Z,Z,Z,Z,Z,trivial⟩⟩
    .have X:=I (λh=>R (λe=>h (Int.ofNat.inj e)));refine AZ (AE (J (Ar Z Z (Ω _ (by omega)) Z) (dd Z Z (AD ?_))));exact ⟨(k+1,M,G),⟨o,by rw [<-X];exact z⟩,by show (eW g i).length - (k+1)<(eW g i).length - k;omega,AY A [2,5,6,7,40] Z (by rw [<-X];rfl) ⟨Z,Z,Z,Z,Z,Z,Z,Z,Z,Z,Z,Z,trivial⟩⟩
   .refine BC ?_;have hke:k=(eW g i).length:=by have:=S;omega
    subst hke;refine AE (J (Ar Z Z (Ω _ (by omega)) Z) (dd Z Z (AD ?_)));exact ⟨(i+1,M,G),⟨l,by rw [<-Wy];exact z⟩,by show g.length - (i+1)<g.length - i;omega,AY A [2,5,6,7,40] Z (by rw [Wy];rfl) ⟨Z,Z,Z,Z,Z,Z,Z,Z,trivial⟩⟩
  .refine BC (AC ?_);have N:i=g.length:=by have:=T;omega
   subst N;refine eA 7 0 40 ((KI g of cnt).map en) Z Z Z Z Z (by rw [ψ,KI,UN,FA]) z.melt ⟨J6 _ _ _,bS _⟩ Z (Ls (emb:=en) 8 7 (KI g of cnt) Z Z Z (UN _ _).symm Z Z Z ?_);rw [a8 cnt];have hll:=ka of g.length cnt;have hob:=bP (UW of g.length cnt) (KI g of cnt) (pq U t) (by rw [KI,UN];exact og t) (by rw [KI,UN,hll]);rw [<-UW,show (AV.own 6 0 cnt)= .own 6 0 (UW of g.length cnt).length by rw [hll]];refine AE (dd Z Z ?_);refine J (qX Z Z) (V (EX hob Z [5,6] ⟨Z,Z,trivial⟩ Z Z Z Z Z Z Z Z Z) (dd Z Z (J (C6 Z Z Z) (J (C6 Z Z Z) (AB Z Z (AB Z Z (AD (AC ?_))))))));have hsq:gB (KI g of cnt) (e9 (UW of g.length cnt))=gj g of cnt:=rfl;have y:=bQ (KI g of cnt) (e9 (UW of g.length cnt));have B:∀k,k<(gj g of cnt).length ->e9 (gj g of cnt) k<cnt:=λk hk=>by have:=kJ (g:=KI g of cnt) (K:=e9 (UW of g.length cnt)) hk;rwa [KI,UN] at this
   rw [KI,UN,<-KI] at y;rw [hsq] at y⊢;refine AE (dd Z Z (V (E5 9 BV Z Z Z (by omega) n4 Z Z Z Z) (AB Z Z (AD (AC (AC ?_))))));rw [oL]
   obtain ⟨a,C⟩:∃a,gj g of cnt=a:=⟨_,Z⟩
   rw [C] at y B⊢;refine AE (dd Z Z (J (Ii Z (ψ ..) E0 Z) (dd Z Z (AD (A0 (BX (α:=Nat) (λk=>⟨142,[(0,.d (L7 g)),(4,(.own 2 0 g.length)),(5,(.d (AL cnt))),(15,(.own 9 0 cnt)),(94,(.d (en a))),(95,(.d (AL a.length))),(96,(.d (AL k)))],[(2,[.rowD 3 1 (rowN g.length of)]),(9,[.rowD 3 1 (rowN cnt (DL a k))])]⟩) (λk=>k<=a.length) (λk=>a.length - k) (0) (υ _) (AY A [2,9] Z Z ⟨Z,Z,Z,Z,Z,Z,Z,trivial⟩) ?_))))));intro k hk;refine AC (AE (J (BN Z Z Z) (AD (AC (Ac Z (λQ=>?_) (λQ=>?_))))))
   .refine AZ (AC (A0 (AC ?_)));have o:k<a.length:=Ba Q;refine AE (dd Z Z (J (Bh (k) Z Z (Z) (Nn o) E0 Z BU Z) (J (D2 Z Z Aw Z) (AB Z Z (AB Z Z (AD (AE (dd Z Z ?_))))))));refine dd Z Z (dd Z Z (J (Ce (e9 a k) Z Z (Z) (B k o) Z E0 BU Z) (V (XW Z Z Z Z Z (by rw [DV];exact B k o) DU Z BU) (AD (AE (J (Ar Z Z (Ω _ (by omega)) Z) (dd Z Z (AD ?_))))))));exact ⟨k+1,o,by omega,AY A [2,9] Z (Z) ⟨Z,Z,Z,Z,Z,Z,Z,trivial⟩⟩
   .refine BC (AC ?_);have hks:k=a.length:=by have:=Q;omega
    subst hks;refine AE (dd Z Z (V (E5 10 SE Z Z Z (by omega) rC Z Z Z Z) (AB Z Z (AD (AC (AC (QB 10 0 (gJ cnt (λ_=>none) (λ_=> [])) Z (by rw [FA,List.length_replicate]) (Sd cnt) ⟨WW _,J6 _ _ _⟩ Z (Fc 40 Z Z Z ?_))))))));have hno:∀v,v<g.length ->DL a a.length (of v)<cnt:=λv hv=>W7 a (Nat.lt_of_le_of_lt (υ _) (t.lt v hv)) y _ (ϖ _) _;refine AE (dd Z Z (J (Ii Z (ψ ..) Qs Z) (dd Z Z (AD (A0 (BX (α:=Nat×MF×(Nat ->Hd)) (λq=>⟨142,[(0,.d (L7 g)),(4,(.own 2 0 g.length)),(15,(.own 9 0 cnt)),(18,(.own 10 0 cnt)),(109,(.d (AL g.length))),(110,(.d (AL q.1)))],[(2,[.rowD 3 1 (rowN g.length (kT of (λv=>DL a a.length (of v)) q.1))]),(9,[.rowD 3 1 (rowN cnt (DL a a.length))]),(10,[.rowD 28 1 (gJ cnt q.2.2 (FU (λv=>DL a a.length (of v)) q.1))]),(40,[.multi q.2.1])]⟩) (λq=>q.1<=g.length/\Lv q.2.1 cnt q.2.2 (FU (λv=>DL a a.length (of v)) q.1)) (λq=>g.length - q.1) ((0,λ_=>none,λ_=>none)) (⟨υ _,Lv.zero _⟩) (AY A [2,9,10,40] Z Z ⟨Z,Z,Z,Z,Z,Z,trivial⟩) ?_))))));rintro ⟨i,M,G⟩ ⟨hi,z⟩;dsimp only at hi z⊢;refine AC (AE (J (BN Z Z Z) (AD (AC (Ac Z (λE=>?_) (λE=>?_))))))
    .refine AZ (AC (A0 (AC ?_)));have l:i<g.length:=Ba E;have s:=t.lt i l;have w:=YK (λv=>DL a a.length (of v)) i;have L:=bX of (λv=>DL a a.length (of v)) i;have u:=hno i l;have hofi:kT of (λv=>DL a a.length (of v)) i i=of i:=θ (ir _);have hofj:kT of (λv=>DL a a.length (of v)) (i+1) i=DL a a.length (of i):=ϱ (iC _);have hgo:=MW (f:=kT of (λv=>DL a a.length (of v)) i) l;have O:=MW (f:=kT of (λv=>DL a a.length (of v)) (i+1)) l;rw [hofi] at hgo;have Y:=MW (f:=DL a a.length) s
     first | dsimp only at w L | skip
     obtain ⟨x,W⟩:∃x,DL a a.length (of i)=x:=⟨_,Z⟩
     rw [hofj,W] at O;rw [W] at w L u Y;have hln:=bO (λv=>DL a a.length (of v)) i x;refine AE (dd Z Z (AB Z Z (AD ?_)));refine AC (AE (dd Z Z (dd Z Z (dd Z Z (dd Z Z (dd Z Z (J (Ce (i) Z Z (Z) (l) Z E0 BU Z) (J (D1 Z Z (hgo) Z Aw Z) ?_))))))));refine J (Ce (of i) Z Z (Z) (s) Z E0 BU Z) (J (D1 Z Z (Y) Z Aw Z) (J (Ce (i) Z Z (Z) (l) Z E0 BU Z) (V (XW Z Z Z Z Z (by rw [DV];exact l) (DU.trans (by rw [L])) Z BU) (AD (DB [[],[],[],[1,2],[1,2,3],[],[],[],[6,7],[6,7,8],[5,6,7,8,9],[5,6,7,8,9,10],[],[12],[5,6,7,8,9,10,11,12,13],rg 15,rg 16] mixed Z (DP (Av 18 Z Z (Av 4 Z Z ?_))))))));refine Av 19 Z Z (CK [124,125] [2] Z Z (λ_=>A5 (Ce (i) Z Z (Z) (l) Z E0 BU Z)) (CK [126] [2] Z Z (λ_=>A5 (D1 Z Z (O) Z Aw Z)) (Av 18 Z Z (Av 4 Z Z (Av 19 Z Z (CK [129,130] [2] Z Z (λ_=>A5 (Ce (i) Z Z (Z) (l) Z E0 BU Z)) (CK [131] [2] Z Z (λ_=>A5 (D1 Z Z (O) Z Aw Z)) (CK [128,132] [10] Z Z (λ_=>A5 (Ce (x) Z Z (Z) (u) Z No CZ Z)) ?_))))))));refine CK [133] [10] Z Z (λ_=>A5 (D1 Z Z (JY u) Z BG Z)) (Av 19 Z Z (Fp [135] [21] [(136,_)] Z Z (λ_=>Fs (D6 21 BV Z Z Z Z Z Z Z Z)) (.inr ⟨136,_,Z,Z,Z,Z,Z⟩) Z Z Z Z Z (Fp [134,136] [60,40,21] [(137,_)] Z Z (λ_=>Fs (G5 134 60 40 (z.at_ x u) Z Z (by rw [ψ]) Z Z Z Z Z (H1 (emb:=AL) (FU (λv=>DL a a.length (of v)) i x) [i] Z Z Z Z Z Z Z Z BV (by show ((FU (λv=>DL a a.length (of v)) i x).length+1)*8<=_;omega) Z Z Z Z))) (.inr ⟨137,_,Z,Z,Z,Z,Z⟩) Z Z Z Z Z (Cg 15 Z Z Z (Ag 16 Z Z (Ei 137 60 40 A Z Z Z (by rw [ψ]) (by simp) Z Z Z Z Z Z Z (λ_ _=>rfl) λb c hb hc=>(J (Ce (x) Z Z (Z) (u) Z No CZ Z) (AD ⟨Z,?_⟩))))))));refine Ag 17 Z Z (V (XW Z Z Z Z Z (by rw [FA];exact u) (SI (h:=some (b,c))) Z CZ) (AD ⟨Z,?_⟩));refine Cr (AE (J (Ar Z Z (Ω _ (by omega)) Z) (dd Z Z (AD ?_))));exact ⟨(i+1,BJ (BZ M (G x)) b (.row 3 1 c ((FU (λv=>DL a a.length (of v)) i x++ [i]).map AL)),An G x (some (b,c))),⟨l,by have:=z.app u hb hc;rw [w] at this;exact this⟩,by show g.length - (i+1)<g.length - i;omega,AY A [2,9,10,40] Z (by rw [w];rfl) ⟨Z,Z,Z,Z,Z,Z,trivial⟩⟩
    .refine BC (AC ?_);have N:i=g.length:=by have:=E;omega
     subst N;have hof:rowN g.length (kT of (λv=>DL a a.length (of v)) g.length)=((List.range g.length).map λv=>DL a a.length (of v)).map AL:=by rw [fS];exact fi λv hv=>fL AL (ϱ (Θ.1 hv))
     rw [hof];refine eA 10 0 40 ((co cnt (FU (λv=>DL a a.length (of v)) g.length)).map en) Z Z Z Z Z (by rw [ψ,UN,FA]) z.melt ⟨J6 _ _ _,bS _⟩ Z (Ls (emb:=AL) 4 2 ((List.range g.length).map λv=>DL a a.length (of v)) Z Z Z (by simp) Z Z Z (AE (dd Z Z (dd Z Z (AB Z Z (AB Z Z (AD (A4 ?_))))))));exact ⟨_,[10],_,A3 Z,Z,Z,of,cnt,t,by unfold fT;rw [C],by unfold fT;rw [C]⟩
noncomputable def lW (g:List (List Nat)):(Nat ->Nat)×Nat:=Classical.epsilon λp=>CN g.length (eW g) p.1 p.2
noncomputable def jK (g:List (List Nat)):Nat ->Nat:=(lW g).1
noncomputable def gx (g:List (List Nat)):Nat:=(lW g).2
theorem RG (f:GB g) {cnt:Nat} (h:CN g.length (eW g) k cnt):CN g.length (eW g) (jK g) (gx g)/\cnt=gx g/\∀v,v<g.length ->k v=jK g v:=by
 have a:CN g.length (eW g) (lW g).1 (lW g).2:=Classical.epsilon_spec (p:=λp:(Nat ->Nat)×Nat=>CN g.length (eW g) p.1 p.2) ⟨(k,cnt),h⟩;exact ⟨a,l0 h a λv c y b=>f.suc c b⟩
noncomputable def fR (g:List (List Nat)):List (List Nat):=co (gx g) (FU (jK g) g.length)
noncomputable def u2 (g:List (List Nat)):List Nat:=(List.range g.length).map (jK g)
theorem VB (h:∀v,v<c ->k v=C v):FU k c=FU C c:=by grind [FU,iD]
theorem Tc (g:List (List Nat)) (b:GT g):AJ prog 134 [.d (L7 g)] [] λr h=>r= .tup [.own 10 0 (gx g),.d (en (u2 g))]/\h=[(10,[.rowD 28 1 ((fR g).map en)])]:=
 (Td g b).mono λr h ⟨c,cnt,a,j,o⟩=>by
  obtain ⟨_,s,f⟩:=RG b.gb (V9 b a);have k:=VB f;have l:(List.range g.length).map (λv=>fT g c cnt (c v))=u2 g:=fi λv i=>f v (Θ.1 i);rw [j,o,k,l,s];exact ⟨Z,Z⟩
def ma (g:List (List Nat)):List (List Int):=g.map (List.map Int.ofNat)
theorem nf (g:List (List Nat)):nN (ma g)=L7 g:=by simp [*,ma]
theorem JO (g:List (List Nat)):(ma g).length=g.length:=by simp [ma]
theorem Vs (g:List (List Nat)):∀i,i<=g.length ->K3 (ma g) i=Il g i
 | 0,_=>rfl
 | i+1,b=>by
  have a:=Vs g i (by omega);rw [K0 (by rw [JO];omega),a];unfold Il;rw [gT,fU,i6,List.map_singleton,List.sum_singleton,Ev (by omega)]
  simp [ma]
theorem qI (a:GT g):Ts (ma g)=0:=by
 have j:=a.gb.n;have i:=a.tot;refine (sv (by rw [JO];omega) (by rw [JO,Vs g _ (ϖ _)];omega) ?_).symm;rintro ⟨l,h,x,c,k⟩;obtain ⟨m,f,rfl⟩:=κ.1 h;obtain ⟨y,b,rfl⟩:=κ.1 c;have:=a.gb.lt m f y b
 grind [JO]
theorem jr (h:u∈g):u.length<=Il g g.length:=by
 obtain ⟨i,a,rfl⟩:=iL.1 h
 have b:Il g (i+1)=Il g i+g[i].length:=by
  grind [Il,gT,Ev]
 have:=Oz g (i:=i+1) (j:=g.length) (by omega);omega
theorem lm (g:List (List Nat)) (a:GT g):AK prog 133 [.d (L7 g)] (AF 0):=by
 have i:=a.gb.n;have f:=a.tot
 have h:=df (ma g) (by rw [JO];omega) λl c=>by
  obtain ⟨m,b,rfl⟩:=κ.1 c;rw [ψ];have:=jr b;omega
 rw [nf,qI a] at h;exact h
theorem RH (g:List (List Nat)) (a:GT g):AJ prog 80 [.d (L7 g)] [] λr b=>r= .tup [.own 10 0 (gx g),.d (AF 0)]/\b=[(10,[.rowD 28 1 ((fR g).map en)])]:=by
 refine As func80 Z Z ntmps80 Z Z Z λF c=>?_;refine AC (AE (AB Z Z (AB Z Z (AD (AC (AC (AE (dd Z Z ?_))))))));refine J (BT (lm g a) Z Z) (AB Z Z (AD (AC (AE (dd Z Z (J (D7 Z Z Z) (AD (D3 Z (fb (by decide)) ?_))))))));refine AZ (AC (AE (dd Z Z (V (EX (Tc g a) Z [10] ⟨Z,trivial⟩ Z Z Z Z Z Z Z Z Z) (dd Z Z (J (Cf Z Z Z) (J (Cf Z Z Z) (AB Z Z ?_))))))));refine AB Z Z (AD (AC (AE (dd Z Z (AB Z Z (AB Z Z (AD (A4 ?_))))))));exact ⟨_,[10],_,A3 Z,Z,Z,Z,Z⟩
theorem aj (a:Nat ->List Nat) (v:Nat):∃y,(Rh a v y/\Rh a y v)/\∀z,Rh a v z/\Rh a z v ->y<=z:=nP (λu=>Rh a v u/\Rh a u v) v v ⟨.refl v,.refl v⟩ (ϖ _)
noncomputable def gK (suc:Nat ->List Nat) (v:Nat):Nat:=Classical.choose (aj suc v)
theorem GE (a:Nat ->List Nat) (v:Nat):(Rh a v (gK a v)/\Rh a (gK a v) v)/\∀z,Rh a v z/\Rh a z v ->gK a v<=z:=Classical.choose_spec (aj a v)
theorem WP {b:Nat}:gK a j=gK a b↔Rh a j b/\Rh a b j:=by
 obtain ⟨f,k⟩:=GE a j;obtain ⟨c,g⟩:=GE a b
 constructor
 .intro e;rw [<-e] at c;exact ⟨f.1.trans c.2,c.1.trans f.2⟩
 .intro h;exact Nat.le_antisymm (k _ ⟨h.1.trans c.1,c.2.trans h.2⟩) (g _ ⟨h.2.trans f.1,f.2.trans h.1⟩)
theorem aV (n:Nat) (a:Nat ->List Nat):∃l cnt,gH n a l cnt:=by
 let b:=(List.range n).filter λv=>decide (gK a v=v)
 have o:b.Nodup:=List.nodup_range.filter _;have g:∀v,gK a v<=v:=λv=>(GE a v).2 v ⟨.refl v,.refl v⟩;have h:∀v,gK a (gK a v)=gK a v:=λv=>WP.2 ⟨(GE a v).1.2,(GE a v).1.1⟩;have k:∀v,v<n ->gK a v∈b:=λv f=>Γ.2 ⟨Θ.2 (Nat.lt_of_le_of_lt (g v) f),Υ (h v)⟩;refine ⟨λv=>b.idxOf (gK a v),b.length,⟨λv f=>jG (k v f),λi j r t=>?_,λc s=>?_,?_⟩⟩
 .rw [<-WP]
  constructor
  .intro e;have x:=List.getElem_idxOf (jG (k i r))
   grind
  grind
 .obtain ⟨w,u⟩:=Γ.1 (ξ s)
  grind
 grind
theorem d5 (g:List (List Nat)) (a:GT g):CN g.length (eW g) (jK g) (gx g):=by
 obtain ⟨b,cnt,h⟩:=aV g.length (eW g);exact (RG a.gb (V9 a h)).1
end Go.Proofs.YteifpcnphnhaoaaGreat
