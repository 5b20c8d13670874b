import Derived.Test.YteifpcnphnhaoaaGreatMg21
open Go.Proofs.Tryz
set_option maxHeartbeats 4000000
namespace Go.Proofs.YteifpcnphnhaoaaGreat
open Go.RowKit
variable {g:List (List Nat)} {a:List eR} {c:List eY} {f:ee} {i:Nat} {w h:List Nat} {j:List AM} {K:Nat ->Nat} {E:List (eR×Nat)} {k:Nat} {o:List Int} {s t:Nat} {M:MF} {u:Type} {x:eY} {y:Nat ->Bool} {z:List Nat} {A:List Int} {B C:eR} {F:Nat} {G:KV} {H:Nat} {I:Type} {L:A7}
set_option maxRecDepth 100000
theorem rq {m:List Int} (h:o.Perm m):o.sum=m.sum:=by
 induction h with
 | nil=>rfl
 | cons x _ a=>rw [hZ,hZ,a]
 | swap x y o=>simp only [hZ];omega
 | trans _ _ c b=>rw [c,b]
theorem WC {b:Type} {p:b ->Bool} {f:b ->Int}:∀{l:List b},((l.filter p).map f).sum=(l.map λi=>if p i=true then f i else 0).sum
 | []=>rfl
 | a::l=>by
  rw [hG,gA,hZ,<-WC (l:=l)]
  cases hp:p a with
  | true=>rw [ϱ Z,ϱ Z,gA,hZ]
  | false=>rw [θ (by simp),θ (by simp),Int.zero_add]
theorem R0 (h:i<a.length):(ej c a y).nd.getD i Bo=Kq (c.map eY.r) a y i:=by
 show ((List.range a.length).map _).getD i Bo=_
 grind
theorem Q9 {a:List (List (AM×Int))} {r:AM} (h:i∈et a r):i<a.length:=Θ.1 (Γ.1 h).1
theorem Kx (a:List eR):a=(List.range a.length).map λi=>a.getD i eT:=by
 apply gu (by simp)
 grind
structure nX (p:ee) (ros:List eY) (its:List eR):Prop where
 e:A6 p=0
 f:CG p
 s:qs ros its
 hr:CD p=ros
 hi:eX p.it=its
 v:∀x∈its,Aq x=0
 w:∀x∈ros,Cb x.r=0
 up:ros.Pairwise λa b=>Bc a.r b.r<0
theorem mz (c:A6 f=0) (j:CG f):nX f (CD f) (eX f.it):=by
 have k:ea f=eX f.it:=ϱ c;have h:=aL j c;rw [k] at h;refine ⟨c,j,h,Z,Z,λx g=>qn (HX c).2.1 x ((I9 f.it).mem_iff.1 g),λx g=>Fj (HX c).1 x ((GD f).mem_iff.1 g),?_⟩;have i:=h.r;rw [List.Nodup,fz] at i;refine ((LY f).and i).imp λ{a b} ⟨r,l⟩=>?_;have k:=MV.anti a.r b.r;have o:Bc a.r b.r≠0:=λe=>l (DK.1 e);omega
theorem bN (h:nX f c a) (j:Nat ->Bool) (s:x∈c):C9 f.it x (BY a j a.length)=max x.n 0+Er (a.map eS) j x.r:=by
 unfold C9
 congr 1
 have u:f.it.Perm a:=by rw [<-h.hi];exact (I9 f.it).symm
 rw [rq ((u.filter _).map _)]
 obtain ⟨l,r⟩:∃l,BY a j a.length=l:=⟨_,Z⟩
 rw [r]
 have e:((a.filter λi=>decide (i.id∈l)).map λi=>Be i x.r).sum=((List.range a.length).map λi=>if decide ((a.getD i eT).id∈l)=true then Be (a.getD i eT) x.r else 0).sum:=by
  conv=>lhs;rw [Kx a]
  rw [List.filter_map,fS,WC];rfl
 have k:(a.map eS).length=a.length:=by simp
 rw [e];unfold Er;rw [k]
 congr 1
 refine fi λi v=>?_;have b:=Θ.1 v;have g:=NE h.s.i j b;rw [r] at g;have t:=XK (h.v (a.getD i eT) (by rw [EQ eT b];exact ξ b)) (h.w x s);have w:(a.map eS).getD i []=eS (a.getD i eT):=by rw [EQ [] (by simpa using b),EQ eT b,ft]
 rw [w,t]
 by_cases o:j i=true
 .rw [ϱ o,ϱ (Υ (g.2 o))]
 .rw [θ o,θ (by simpa using λh=>o (g.1 h))]
theorem kI (h:nX f c a) (g:Nat ->Bool) (o:x∈c):P1 a f.it (BY a g a.length) x=UT (ej c a g) (bB (a.map eS) g x):=by
 unfold P1 UT;rw [bN h g o]
 have k:(Q2 (bB (a.map eS) g x) (bB (a.map eS) g x).sum=true)↔max x.n 0+Er (a.map eS) g x.r<0:=by
  unfold Q2 qT bB;rw [gR];dsimp only;have:(0:Int)<=max x.n 0:=Int.le_max_right _ _;omega
 by_cases l:max x.n 0+Er (a.map eS) g x.r<0
 .rw [ϱ l,ϱ (k.2 l),my h.v (h.w x o),<-List.map_reverse,List.find?_map];show Option.map _ (Option.map _ _)=Option.map _ ((et (a.map eS) x.r).reverse.find? _)
  have e:(et (a.map eS) x.r).reverse.find? ((λb=>decide (b∈BY a g a.length))∘λi=>(a.getD i eT).id)=(et (a.map eS) x.r).reverse.find? (fe (ej c a g)):=Gs λi r=>by
   have j:=Q9 (List.mem_reverse.1 r);rw [ψ] at j;show decide ((a.getD i eT).id∈_)=fe _ i;unfold fe;rw [R0 j];show _=g i;have:=NE h.s.i g j
   cases ho:g i with
   | true=>exact Υ (this.2 ho)
   | false=>exact fb λh=>by rw [this.1 h] at ho;cases ho
  rw [e]
  cases hf:(et (a.map eS) x.r).reverse.find? (fe (ej c a g)) with
  | none=>rfl
  | some i=>
   have j:=Q9 (List.mem_reverse.1 (List.mem_of_find?_eq_some hf));rw [ψ] at j;show some _=some _
   congr 1
   have s:(ej c a g).nd.getD i Bo=Kq (c.map eY.r) a g i:=R0 j;show KV.mk (a.getD i eT).id 0 x.r (-1)=KV.mk ((ej c a g).nd.getD i Bo).it.id 0 x.r (-1);rw [s];rfl
 .rw [θ l,θ λh=>l (k.1 h)]
theorem TN {b:Type} (p:b ->Bool):∀(A:List b),A.find? p=A[A.findIdx p]?
 | []=>rfl
 | a::A=>by
  rw [List.find?_cons,List.findIdx_cons]
  cases hp:p a with
  | true=>rfl
  | false=>rw [TN p A];rfl
theorem lN (X:eR):(eS X).Pairwise λa b=>Bc a.1 b.1<0:=by
 unfold eS
 split
 .exact KM (fX X)
 .exact List.Pairwise.nil
theorem ru (h:nX f c a) (k:List (List (AM×Int))) (X:eR):gn (c.map eY.r) k (eS X)=(c.filter λx=>decide (ER (eS X) x.r<0)).map λx=>((c.map eY.r).idxOf x.r,(et k x.r).length):=by
 have l:((eS X).filter λd=>decide (d.1∈c.map eY.r) && decide (d.2<0)).map Prod.fst=(c.filter λx=>decide (ER (eS X) x.r<0)).map eY.r:=by
  refine mP (R:=λg b=>Bc g b<0) (λx=>by rw [MV.refl];omega) (λx y z=>MV.trans x y z) ?_ ?_ λr=>?_
  .rw [fz];exact List.Pairwise.filter _ (lN X)
  .rw [fz];exact List.Pairwise.filter _ h.up
  .constructor
   .intro s;obtain ⟨d,j,rfl⟩:=κ.1 s;obtain ⟨t,i⟩:=Γ.1 j;rw [fV,gR,gR] at i;obtain ⟨x,o,e⟩:=κ.1 i.1;refine κ.2 ⟨x,Γ.2 ⟨o,?_⟩,e⟩;have:ER (eS X) d.1=d.2:=mQ (jP X) t;rw [e,this];exact Υ i.2
   .intro s;obtain ⟨x,o,rfl⟩:=κ.1 s;obtain ⟨t,i⟩:=Γ.1 o;have i:=hJ i
    have v:x.r∈(eS X).map Prod.fst:=Classical.byContradiction λu=>by
     have:ER (eS X) x.r=0:=EM u;omega
    obtain ⟨d,j,e⟩:=κ.1 v;have:ER (eS X) d.1=d.2:=mQ (jP X) j;rw [e] at this;refine κ.2 ⟨d,Γ.2 ⟨j,?_⟩,e⟩;rw [fV,gR,gR];exact ⟨by rw [e];exact κ.2 ⟨x,t,Z⟩,by omega⟩
 have w:gn (c.map eY.r) k (eS X)=(((eS X).filter λd=>decide (d.1∈c.map eY.r) && decide (d.2<0)).map Prod.fst).map λr=>((c.map eY.r).idxOf r,(et k r).length):=by
  unfold gn;rw [fS];rfl
 rw [w,l,fS];rfl
theorem bA (h:nX f c a) (g:Nat ->Bool) (i:x∈c):(ej c a g).po.getD ((c.map eY.r).idxOf x.r) CI=bB (a.map eS) g x:=by
 obtain ⟨j,k,rfl⟩:=gF i;have b:j<(c.map eY.r).length:=by simpa using k
 have e:(c.map eY.r).idxOf c[j].r=j:=by
  have:=IT h.s.r b
  grind
 rw [e];show (c.map _).getD j CI=_
 grind
theorem Qi (f:(a.map eR.id).Nodup) (c:i<a.length) (b:t<a.length) (h:(a.getD i eT).id=(a.getD t eT).id):i=t:=by
 rw [EQ eT c,EQ eT b] at h
 have g:(a.map eR.id)[i]'(by simpa using c)=(a.map eR.id)[t]'(by simpa using b):=by
  grind
 exact (List.getElem_inj f).1 g
theorem XJ (h:nX f c a) (g:Nat ->Bool) (C:i<a.length) (z:x∈c):
  ON a (BY a g a.length) (a.getD i eT).id x=if ER (eS (a.getD i eT)) x.r<0 then (if gD (ej c a g) ((c.map eY.r).idxOf x.r,(et ((a.map eS).take i) x.r).length)=true then some (RA (ej c a g) (Kq (c.map eY.r) a g i) ((c.map eY.r).idxOf x.r,(et ((a.map eS).take i) x.r).length)) else none) else none:=by
 have fW:i<(a.map eS).length:=by simpa using C
 have M:(a.map eS).getD i []=eS (a.getD i eT):=by rw [EQ [] fW,EQ eT C,ft]
 have L:=my h.v (h.w x z);obtain ⟨B,t,D,R⟩:=NO fW x.r;rw [M] at t
 have y:(a.getD i eT).id∈ez a x.r↔ER (eS (a.getD i eT)) x.r<0:=by
  rw [L,κ]
  constructor
  .rintro ⟨j,u,e⟩;have k:=Q9 u;rw [ψ] at k;have:=Qi h.s.i k C e;subst this;have:=(Γ.1 u).2;rw [M] at this;exact hJ this
  .intro l;refine ⟨i,?_,Z⟩;rw [t,ϱ l];simp
 unfold ON
 by_cases l:ER (eS (a.getD i eT)) x.r<0
 .rw [ϱ (y.2 l),ϱ l];rw [ϱ l] at t
  obtain ⟨A,O⟩:∃A,et ((a.map eS).take i) x.r=A:=⟨_,Z⟩
  rw [O] at t D⊢
  have K:ez a x.r=A.map (λj=>(a.getD j eT).id)++((a.getD i eT).id::B.map λj=>(a.getD j eT).id):=by
   rw [L,t,fU,List.singleton_append,gA]
  have s:(A.map λj=>(a.getD j eT).id).length=A.length:=ψ _;have w:A.length<(ez a x.r).length:=by rw [K,Δ,s];simp
  have v:(ez a x.r).take A.length=A.map λj=>(a.getD j eT).id:=by rw [K,<-s,List.take_left'];rfl
  have J:(ez a x.r)[A.length]=(a.getD i eT).id:=by
   have:(ez a x.r)[A.length]? =some (a.getD i eT).id:=by
    rw [K,m6 (by omega),s,Nat.sub_self];rfl
   rw [ω w] at this;exact Option.some.inj this
  rw [QL w (λb l=>by
   rw [v] at l;obtain ⟨j,u,rfl⟩:=κ.1 l;have:=D j u
   exact Υ λe=>by have:=Qi h.s.i (by omega) C e;omega) (by rw [J];simp),v,List.find?_map]
  have Q:A.find? ((λb=>decide (b∉BY a g a.length))∘λj=>(a.getD j eT).id)=A.find? λj=>!g j:=Gs λj u=>by
   have k:j<a.length:=by have:=D j u;omega
   have:=NE h.s.i g k;show decide ((a.getD j eT).id∉_)=!g j
   cases ho:g j with
   | true=>exact fb λG=>G (this.2 ho)
   | false=>exact Υ λG=>by rw [this.1 G] at ho;cases ho
  rw [Q,TN]
  have H:((ej c a g).po.getD ((c.map eY.r).idxOf x.r) CI).mi=if A.findIdx (λj=>!g j)<A.length then A.findIdx λj=>!g j else (([i]:List Nat)++B).findIdx (λj=>!g j)+A.length:=by
   rw [bA h g z];show cA g (et (a.map eS) x.r)=_;unfold cA;rw [t,TQ]
  have F:((ej c a g).po.getD ((c.map eY.r).idxOf x.r) CI).q=et (a.map eS) x.r:=by rw [bA h g z];rfl
  have E:((ej c a g).po.getD ((c.map eY.r).idxOf x.r) CI).r=x.r:=by rw [bA h g z];rfl
  unfold gD RA;dsimp only;rw [H,F,E]
  by_cases o:A.findIdx (λj=>!g j)<A.length
  .rw [ϱ o,ϱ (Υ o),ω o];have I:=ξ o;have k:A[A.findIdx λj=>!g j]<a.length:=by have:=D _ I;omega
   have P:(et (a.map eS) x.r).getD (A.findIdx λj=>!g j) 0=A[A.findIdx λj=>!g j]:=by
    rw [t,Ψ,m5 o,ω o];rfl
   rw [P,R0 k];rfl
  .rw [θ o,θ (by simp),iM (by omega)];rfl
 .rw [θ (λN=>l (y.1 N)),θ l]
theorem dh (h:nX f c a) (g:Nat ->Bool) (t:i<a.length):DA f (BY a g a.length) (a.getD i eT).id=F5 (ej c a g) (Kq (c.map eY.r) a g i):=by
 have k:a.getD i eT∈a:=by rw [EQ eT t];exact ξ t
 have r:a.getD i eT∈f.it:=by rw [<-h.hi] at k;rw [<-h.hi];exact (I9 f.it).mem_iff.1 k
 have E:c.findSome? (ON a (BY a g a.length) (a.getD i eT).id)=((gn (c.map eY.r) ((a.map eS).take i) (eS (a.getD i eT))).find? (gD (ej c a g))).map (RA (ej c a g) (Kq (c.map eY.r) a g i)):=by
  rw [ru h,L9,<-LB (p:=λx=>decide (ER (eS (a.getD i eT)) x.r<0)) (λx u v=>by rw [XJ h g t u,θ (of_decide_eq_false v)])]
  grind [Jq,XJ]
 have D:eo f (a.getD i eT).id=a.getD i eT:=by
  obtain ⟨y,_,B,A⟩:=GL (p:=f) (id:=(a.getD i eT).id) (κ.2 ⟨_,r,Z⟩);refine IU (XT (HX h.e).2.1) (by rw [B];exact ξ y) r A
 have C:(a.getD i eT).af.find? (λb=>decide (b∉BY a g a.length))=(a.getD i eT).af.find? (fA (ej c a g)):=Gs λb z=>by
  have w:=h.s.a _ k b z;have s:=jG w;have l:=List.getElem_idxOf s;unfold fA;rw [QE]
  generalize (a.map eR.id).idxOf b=j at s l⊢
  have o:j<a.length:=by simpa using s
  rw [ft] at l;rw [R0 o];show _=!g j;have:=NE h.s.i g o
  grind
 unfold DA;rw [h.hr,h.hi,E,D,C];unfold F5
 show _=match (gn (c.map eY.r) ((a.map eS).take i) (eS (a.getD i eT))).find? (gD (ej c a g)) with
  | some e=>some (RA (ej c a g) (Kq (c.map eY.r) a g i) e)
  | none=>match (a.getD i eT).af.find? (fA (ej c a g)) with
   | some id=>some ⟨(a.getD i eT).id,2,Ey,id⟩
   | none=>none
 cases (gn (c.map eY.r) ((a.map eS).take i) (eS (a.getD i eT))).find? (gD (ej c a g)) with
 | some e=>rfl
 | none=>
  show ((a.getD i eT).af.find? (fA (ej c a g))).map _=_
  cases (a.getD i eT).af.find? (fA (ej c a g))<;>rfl
theorem Wa {p:ee} {b:List eY} {a:List eR} (h:nX p b a) (c:Nat ->Bool):NM p (BY a c a.length)=CT (ej b a c):=by
 have t:(BY a c a.length).findSome? (DA p (BY a c a.length))=(ej b a c).nd.findSome? (P7 (ej b a c)):=by
  show (((List.range a.length).filter c).map λi=>(a.getD i eT).id).findSome? _=((List.range a.length).map _).findSome? _;rw [List.findSome?_map,List.findSome?_map]
  rw [<-LB (p:=c) (l:=List.range a.length) (f:=P7 (ej b a c)∘Kq (b.map eY.r) a c) (λi _ j=>by
   show P7 _ (Kq _ _ _ i)=none;unfold P7;rw [θ];show ¬(c i=true)
   rw [j];simp)]
  refine Jq λi k=>?_;obtain ⟨r,o⟩:=Γ.1 k;show DA p _ (a.getD i eT).id=P7 _ (Kq _ _ _ i);rw [dh h c (Θ.1 r)];unfold P7;rw [ϱ];exact o
 have s:b.findSome? (P1 a p.it (BY a c a.length))=(ej b a c).po.findSome? (UT (ej b a c)):=by
  show _=(b.map _).findSome? _;rw [List.findSome?_map];exact Jq λx g=>kI h c g
 unfold NM CT;rw [h.hr,h.hi,t,s]
 grind
theorem Rj (c:(a.map eR.id).Nodup) (b:Nat ->Bool) (f:i<a.length):Lx (BY a b a.length) (a.getD i eT).id=BY a (Ah b i) a.length:=by
 unfold Lx BY;rw [List.filter_map,List.filter_filter]
 grind [iD,IH,Qi,GC]
def uW (p:ee) (n:Nat):Prop:=p.it.length<=n/\p.ro.length<=30/\∀i∈p.it,i.po.length<=8/\i.pa.length<=8/\i.af.length<=8
instance (p:ee) (n:Nat):Decidable (uW p n):=inferInstanceAs (Decidable (_/\_/\∀i∈p.it,_))
def F8 (p:ee) (l:List Int):Prop:=(∀id∈l,DA p l id=none)/\∀x∈p.ro,¬C9 p.it x l<0
noncomputable instance (p:ee) (l:List Int):Decidable (F8 p l):=Classical.propDecidable _
theorem bj (a:List eY) (b:List eR) (c:Nat ->Bool):Ao (ej a b c)=ej a b c:=by
 unfold Ao ej;dsimp only;rw [fS,fS];rfl
theorem Q8 (r:(a.map eR.id).Nodup) (h:CT (ej c a y)=some G):∃i,i<a.length/\y i=true/\(a.getD i eT).id=G.id/\(a.map eR.id).idxOf G.id=i:=by
 obtain ⟨i,x,l,b,g⟩:=Q7 h;obtain ⟨k,o,f⟩:=MY (bj c a y) l;have j:(a.getD i eT).id=G.id:=by rw [g,f]
 refine ⟨i,k,by rw [<-o];exact b,j,?_⟩;have s:=IT r (i:=i) (by simpa using k)
 grind
theorem WN {b:List eY} {a:List eR} (j:(a.map eR.id).Nodup):∀(f:Nat) (c:Nat ->Bool),D9 a.length c<=f ->CT (ej b a (E7 b a f c).2)=none
 | 0,c,h=>by
  show CT (ej b a c)=none
  cases hne:CT (ej b a c) with
  | none=>rfl
  | some e=>
   obtain ⟨i,k,g,_,_⟩:=Q8 j hne;have:=GU k g;omega
 | f+1,c,h=>by
  cases hne:CT (ej b a c) with
  | none=>rw [JX hne];exact hne
  | some e=>
   obtain ⟨i,k,g,_,l⟩:=Q8 j hne;have:=GU k g;rw [JW hne,l];exact WN j f (Ah c i) (by omega)
theorem Ti (n:Nat) (a:Nat ->Bool):D9 n a<=n:=by grind [D9]
theorem VM (a:A6 f=0) (b:CG f):NM f (eU f)=none:=by
 have h:=mz a b;have c:ea f=eX f.it:=ϱ a;unfold eU Ig;rw [c,Wa h];exact WN h.s.i _ _ (Ti _ _)
theorem J5 {its:List eR} {x:eY} {l:List Int} (h:∀i∈its,i.id∈l ->0<=Be i x.r):0<=C9 its x l:=by
 have f:(0:Int)<=max x.n 0:=Int.le_max_right _ _
 have c:∀m:List eR,(∀i∈m,0<=Be i x.r) ->0<=(m.map λi=>Be i x.r).sum:=λm=>by
  induction m with
  | nil=>intro _;simp
  | cons a m b=>
   grind
 grind [C9]
theorem Yp (h:NM f o=none):F8 f o:=by
 unfold NM at h
 cases h1:o.findSome? (DA f o) with
 | some e=>rw [h1] at h;cases h
 | none=>
  rw [h1] at h;refine ⟨λid b=>List.findSome?_eq_none_iff.1 h1 id b,λx j k=>?_⟩;have g:=List.findSome?_eq_none_iff.1 h x ((GD f).mem_iff.2 j);unfold P1 at g;rw [ϱ k] at g
  have r:(ez (eX f.it) x.r).reverse.find? (λa=>decide (a∈o))=none:=by
   simp_all
  have u:=List.find?_eq_none.1 r
  have:=J5 (its:=f.it) (x:=x) (l:=o) λi t s=>Classical.byContradiction λc=>by
   grind [ez,I9]
  omega
theorem Ix (b:A6 f=0) (a:CG f):F8 f (eU f):=Yp (VM b a)
theorem Vd {id:Int} (g:∀x∈A,x∈o) (h:DA f A id=none):DA f o id=none:=by
 unfold DA at h⊢
 cases h1:(CD f).findSome? (ON (eX f.it) A id) with
 | some e=>rw [h1] at h;cases h
 | none=>
  rw [h1] at h
  have c:(CD f).findSome? (ON (eX f.it) o id)=none:=Hn λx a=>by
   have b:=List.findSome?_eq_none_iff.1 h1 x a;unfold ON at b⊢
   simp_all
  rw [c]
  simp_all
theorem SX {x:eY} {l t:List Int} (g:∀y∈t,y∈l):∀{its:List eR},(∀i∈its,i.id∈l ->i.id∉t ->0<=Be i x.r) ->C9 its x t<=C9 its x l
 | [],_=>Int.le_refl _
 | a::its,h=>by
  have f:=SX g (its:=its) λi j=>h i (gG _ j);have k:=h a (fu ..);unfold C9 at f⊢;rw [hG,hG]
  by_cases b:a.id∈t
  .rw [ϱ (Υ b),ϱ (Υ (g _ b))];simp only [gA,hZ];omega
  .rw [θ (by simpa using b)]
   by_cases c:a.id∈l
   .rw [ϱ (Υ c)];have:=k c b;simp only [gA,hZ];omega
   .rw [θ (by simpa using c)];exact f
theorem bd (X:A6 f=0) (J:F8 f A) (N:∀y∈A,y∈o) (w:NM f o=some G):G.id∉A:=λh=>by
 unfold NM at w
 split at w
 .rename_i e' r
  injection w with w;subst w
  obtain ⟨id,S,g⟩:=List.exists_of_findSome?_eq_some r;have s:=ZH g;rw [s] at h;rw [Vd N (J.1 id h)] at g;cases g
 .obtain ⟨x,M,g⟩:=List.exists_of_findSome?_eq_some w;have H:=(GD f).mem_iff.1 M;unfold P1 at g
  split at g
  .rename_i ho
   obtain ⟨a,W,rfl⟩:=Option.map_eq_some_iff.1 g;dsimp only at h;obtain ⟨V,u,v,I,P⟩:=List.find?_eq_some_iff_append.1 W
   have z:ez (eX f.it) x.r=v.reverse++a::u.reverse:=by
    have:=fL List.reverse I;rw [List.reverse_reverse,List.reverse_append,List.reverse_cons,io] at this;exact this
   have F:(ez (eX f.it) x.r).Nodup:=by
    have r:((eX f.it).map eR.id).Nodup:=((I9 f.it).map eR.id).nodup_iff.2 (XT (HX X).2.1);unfold ez;exact r.sublist ((gE).map eR.id)
   have K:a∉v.reverse:=λQ=>by
    rw [z,ip] at F;exact F.2.2 _ Q _ (fu ..) rfl
   have j:=J.1 a h
   have E:∀b∈v.reverse,b∈A:=λb U=>by
    unfold DA at j
    cases r:(CD f).findSome? (ON (eX f.it) A a) with
    | some G=>rw [r] at j;cases j
    | none=>
     have s:=List.findSome?_eq_none_iff.1 r x M;unfold ON at s;rw [ϱ (by rw [z];simp)] at s;have D:v.reverse.length<(ez (eX f.it) x.r).length:=by rw [z,Δ];simp
     have B:(ez (eX f.it) x.r).take v.reverse.length=v.reverse:=by rw [z,List.take_left'];rfl
     have L:(ez (eX f.it) x.r)[v.reverse.length]=a:=by
      have:(ez (eX f.it) x.r)[v.reverse.length]? =some a:=by
       rw [z,m6 (ϖ _),Nat.sub_self];rfl
      rw [ω D] at this;exact Option.some.inj this
     rw [QL D (λc O=>by rw [B] at O;exact Υ λG=>K (G▸O)) (by rw [L];simp),B] at s
     have Y:v.reverse.find? (λa=>decide (a∉A))=none:=by
      cases hf:v.reverse.find? (λa=>decide (a∉A)) with
      | none=>rfl
      | some c=>rw [hf] at s;cases s
     have:=List.find?_eq_none.1 Y b U
     simpa using this
   have R:=SX (x:=x) N (its:=f.it) λi T r g=>Classical.byContradiction λC=>by
    have k:i.id∈ez (eX f.it) x.r:=κ.2 ⟨i,Γ.2 ⟨(I9 f.it).mem_iff.2 T,by simpa using C⟩,Z⟩;rw [z] at k;rcases ν.1 k with k | k
    .exact g (E _ k)
    .rcases fP.1 k with k | k
     .rw [k] at g;exact g h
     .have:=P _ (List.mem_reverse.1 k)
      simp at this
      exact this r
   exact J.2 x H (by omega)
  .cases g
theorem Kw (k:A6 f=0) (w:CG f) (u:F8 f A) (z:∀y∈A,y∈f.it.map eR.id):∀y∈A,y∈eU f:=by
 have h:=mz k w;have B:ea f=eX f.it:=ϱ k
 have o:∀(a:Nat) (b:Nat ->Bool),(∀y∈A,y∈BY (eX f.it) b (eX f.it).length) ->∀y∈A,y∈BY (eX f.it) (E7 (CD f) (eX f.it) a b).2 (eX f.it).length:=by
  intro a
  induction a with
  | zero=>intro b c;exact c
  | succ a r=>
   intro b c
   cases hne:CT (ej (CD f) (eX f.it) b) with
   | none=>rw [JX hne];exact c
   | some e=>
    obtain ⟨i,v,_,j,s⟩:=Q8 h.s.i hne;rw [JW hne,s];refine r (Ah b i) λy l=>?_;have g:=bd k u c (by rw [Wa h];exact hne);rw [<-Rj h.s.i b v,j];exact Γ.2 ⟨c y l,Υ λx=>g (x▸l)⟩
 grind [eU,Ig,BY,Kx,I9]
def er (p:ee):List AM:=p.ro.map eY.r
def dR (rs:List AM) (i:eR):List (AM×Int):=(eS i).filter λd=>decide (d.1∈rs)
theorem dU (a:List AM) (i:eR):((dR a i).map Prod.fst).Nodup:=List.Nodup.sublist (List.Sublist.map _ gE) (jP i)
theorem Dj [DecidableEq u] {O:List (u×I)} {x:u} {v:I} (h:x∉O.map Prod.fst):BA O x v=O++ [(x,v)]:=by
 induction O with
 | nil=>rfl
 | cons a l b=>
  grind [BA]
theorem FG {y:A7}:BJ (BJ M s L) s y=BJ M s y:=by grind [EB,Ft]
theorem Ks (h:M s=some L):BJ M s L=M:=by grind [EB,Ft]
theorem Jc {l:List u} (a:l.Nodup) (b:t<l.length):l[t]∉l.take t:=by grind [jH]
abbrev WF:FuncId:=119
structure GX (N:MF) (b:Nat) (l:List Int):Prop where
 ex:∃m,N b=some (.cells 137 [mD m])/\N m=some (.map none (BK AF Aa (At l)))
abbrev O2 (b:Nat):D:= .fn WF [] [pD b 0]
theorem Fv (l:List Int) (j:l.Nodup) (v:l.length<=1000000):AJ prog 66 [.d (.sl none (l.map AF))] [] λr t=>∃b N,r= .d (O2 b)/\t=[(41,[.multi N])]/\GX N b l:=by
 refine As func66 Z Z ntmps66 Z Z Z λF h=>(AC (AE (AB Z Z (AD ?_))));refine AC (Fc 41 Z Z Z (AE (V (O4 1 Z Z Z Z) (Ko 6 1 41 h Z Z Z Z Z Z Z Z Z Z (λ_=>rfl) λm u=>(cj 41 m Z (EB _ _ _) Z (V (Bn 2 Z2 Z Z Z Z) (V (B1 Z Z Z Z Z Z Z Zp) (AD ?_))))))));refine AC (AC (AE (dd Z Z (J (CB Z E0 Z) (dd Z Z (AD (A0 (BX (α:=Nat×MF) (λq=>⟨17,[(3,(.ptr 2 0 0)),(7,(.d (.sl none (l.map AF)))),(8,(.d (AF (l.length:Int)))),(9,(.d (AF (q.1:Int))))],[(2,[.blk 137 [.d (mD m)]]),(41,[.multi q.2])]⟩) (λq=>q.1<=l.length/\q.2 m=some (.map none (BK AF Aa (At (l.take q.1))))) (λq=>l.length - q.1) ((0,_)) (⟨υ _,EB _ _ _⟩) (AY h [2,41] Z Z ⟨Z,Z,Z,Z,trivial⟩) ?_))))))));rintro ⟨k,N⟩ ⟨o,g⟩;dsimp only at o g⊢;refine AC (AE (J (BN Z Z Z) (AD (AC (Ac Z (λc=>?_) (λc=>?_))))))
 .refine AZ (AC (A0 (AC ?_)));have a:k<l.length:=Ba c;refine AE (J (Bh (k) Z Z (Z) (Ab a) E0 Z BU Z) (J (D2 Z Z Aw Z) (AB Z Z (AD ?_))));refine AE (J (A2 Z Z Z P2 Z) (dd Z Z (V (Mf (f:=41) (At (l.take k)) l[k] true Z Z g Z EL HS Z Z) (AD (AE (J (Ar Z Z (AO (k+1) (by omega)) Z) (dd Z Z (AD ?_))))))));exact ⟨(k+1,_),⟨a,by show BJ _ _ _ _=_;rw [EB,χ a,ZT (Jc j a)]⟩,by show l.length - (k+1)<l.length - k;omega,AY h [2,41] Z (Z) ⟨Z,Z,Z,Z,trivial⟩⟩
 .refine BC (AC ?_);have i:k=l.length:=by have:=c;omega
  rw [i,fw] at g;refine XX (ds:=[mD m]) 3 2 41 h Z Z Z Z Z Z Z Z Z Z Z (λ_=>rfl) λb s=>(AE (J (RW (ds:=[]) (es:=[pD b 0]) Z Z Z Z Z) (AB Z Z (AD (A4 ?_)))));exact ⟨_,[41],_,A3 Z,Z,Z,b,_,Z,Z,⟨m,EB _ _ _,by rw [Ft (λe=>by rw [e,s] at g;cases g)];exact g⟩⟩
theorem Da {N:MF} (h:GX N s o) (id:Int):AJ prog WF [.d (AF id),.d (pD s 0)] [(41,[.multi N])] λr g=>r= .d (Aa (decide (id∈o)))/\g=[(41,[.multi N])]:=by
 obtain ⟨m,c,a⟩:=h;refine As func119 Z Z ntmps119 Z Z Z λF i=>(AC (AE (AB Z Z ?_)));refine AD (AC (AE (J (D4 (f:=41) Z Z c Z P2 Z) (dd Z Z (J (SA (f:=41) (At o) id false _ Z Z a Z EL HS Rd (XZ o id) Z) (AB Z Z (AD (A4 ?_))))))));exact ⟨_,[41],_,A3 Z,Z,Z,Z,Z⟩
theorem Py (p:ee) (l:List Int) (c:EY p) (b:l.length<=100000) (a:p.it.length<=1000):AK prog 64 [.d (Bf p),.d (.sl none (l.map AF))] (AF (DM p l)):=by
 refine As func64 Z Z ntmps64 Z Z Z λF f=>(AC (AE (V (Bz 1 Z Z Z Z Z Z Z) (AB Z Z ?_))));refine AD (AC (AE (J (BE Z Z BM Z Z Z) (dd Z Z (J (BT (Ze p l c b a) Z Z) (dd Z Z (J (C6 Z Z Z) (J (C6 Z Z Z) ?_))))))));refine AB Z Z (AB Z Z (AD (AC (AE (dd Z Z (AB Z Z (AD (A4 ?_))))))));exact ⟨_,[],[],A3 Z,Z,Z,Z,Z⟩
abbrev C4 (e:eR×Nat):D:= .agg [AF e.1.id,AF e.1.pr,AF e.1.sq,.sl none (e.1.po.map CF),.sl none (e.1.pa.map Fk),.sl none (e.1.af.map AF),mD e.2]
abbrev Iz (m:List (AM×Int)):List (D×D):=BK CC AF m
def Vm (rs:List AM) (M:MF) (E:List (eR×Nat)):Prop:=∀e∈E,M e.2=some (.map none (Iz (dR rs e.1)))
theorem Vm.add (h:Vm j M E) (a:M s=none):Vm j (BJ M s (.map none (Iz (dR j B)))) (E++ [(B,s)]):=by grind [Vm,BJ]
def dK (rs:List AM) (i:eR) (j:Nat):List (AM×Int):=((eS i).take j).filter λd=>decide (d.1∈rs)
theorem qC (a:List AM) (i:eR):dK a i (eS i).length=dR a i:=by unfold dK dR;rw [fw]
theorem qB (g:t<(eS B).length) (h:((eS B)[t]).1∈j):BA (dK j B t) ((eS B)[t]).1 ((eS B)[t]).2=dK j B (t+1):=by
 have f:=jP B
 have k:((eS B)[t]).1∉(dK j B t).map Prod.fst:=λa=>by
  obtain ⟨d,b,e⟩:=κ.1 a;have c:d∈(eS B).take t:=(Γ.1 b).1;have l:((eS B)[t]).1∈((eS B).map Prod.fst).take t:=by rw [<-List.map_take,<-e];exact ie c
  grind [Jc]
 grind [Dj,dK,χ]
theorem lP (a:t<(eS B).length) (h:((eS B)[t]).1∉j):dK j B (t+1)=dK j B t:=by
 unfold dK;rw [χ a,iJ]
 simp [h]
def TX (a b:eR):Int:=if Gc a b<0 then -1 else 1
theorem TW {b:eR}:TX C b<0↔Gc C b<0:=by grind [TX]
theorem dA:Go.Sort.SWO (ltOf TX):=by
 have e:ltOf TX=ltOf Gc:=by
  funext a b
  exact decide_eq_decide.2 TW
 rw [e];exact C1.swo
theorem V3 (a b:eR):AK prog 116 [.d (Af a),.d (Af b)] (AF (TX a b)):=by
 refine As func116 Z Z ntmps116 Z Z Z λF f=>(AC (AE (V (Bz 1 Z Z Z Z Z Z Z) (V (Bz 2 Z Z Z Z Z Z Z) (AB Z Z ?_)))));refine AD (AC (AC (AE (J (BE Z Z Bs Z Z Z) (J (BE Z Z Bs Z Z Z) (J (BT (dl a b) Z Z) (AD (Ac Z (λc=>?_) (λc=>?_)))))))))
 .refine AC (AE (AB Z Z (AD (A4 ?_))));exact ⟨_,[],[],A3 Z,Z,Z,Ax (by unfold TX;rw [ϱ c]),Z⟩
 .refine AZ (AC (AE (AB Z Z (AD (A4 ?_)))));exact ⟨_,[],[],A3 Z,Z,Z,Ax (by unfold TX;rw [θ c]),Z⟩
theorem ZA (l:List eR) (c:l.length<=1000000):AJ prog 114 [.d (.sl none (l.map Af))] [] λr b=>r= .own 20 0 l.length/\b=[(20,[.rowD 55 6 (l.map Af)])]:=by
 refine As func114 Z Z ntmps114 Z Z Z λF f=>(AC (AE (AB Z Z ?_)));skip;refine AD (AC (AC (AE (dd Z Z (FF 3 Z (λa=>?_) ?_)))))
 .refine J (Dy F0 Z Z) (AD (DO Z (Z) (AC (AE (AB Z Z (W5 2 20 K8 Z Z Z Z (AD (A4 ?_))))))));exact ⟨_,[20],_,A3 Z,Z,Z,by rw [List.map_eq_nil_iff.1 a];rfl,by rw [List.map_eq_nil_iff.1 a];rfl⟩
 .refine J (Dy F0 Z Z) ?_;refine AD (D3 Z (Z) (AZ (AC (AE (V (D6 20 K8 Z Z Z Z Z Z Z Z) (dd Z Z (V (Ex (([]:List eR)) (l) Z Z Z Z Z Z (λ_=>rfl) K8 (by simp only [List.length_nil];omega) Z Z Z Z) (AB Z Z ?_))))))));skip;refine AD (A4 ?_);exact ⟨_,[20],_,A3 Z,Z,Z,by simp,Z⟩
theorem oF (a:(er f).Nodup) (b:k<f.ro.length):BA (At ((er f).take k)) f.ro[k].r true=At ((er f).take (k+1)):=by grind [er,ZT,Jc,χ]
theorem LH (p:ee) (hE:A6 p=0) (Y:CG p) (g:FuncId) (o:List D) (N:MF) (I:Int ->Bool) (hq:∀id,AJ prog g (.d (AF id)::dL o) [(41,[.multi N])] λr H'=>r= .d (Aa (I id))/\H'=[(41,[.multi N])]):
  AJ prog 65 [.d (Bf p),.d (.fn g [] o)] [(41,[.multi N])] λr H'=>∃E M,r= .d (.sl none (E.map C4))/\H'=[(41,[.multi N]),(40,[.multi M])]/\Vm (er p) M E/\E.map Prod.fst=(ea p).filter λi=>I i.id:=by
 have hO:ea p=eX p.it:=ϱ hE;rw [hO]
 obtain ⟨c,s⟩:∃c,eX p.it=c:=⟨_,Z⟩
 have X:c.length=p.it.length:=by rw [<-s];exact jO p.it
 have K:∀i∈c,i∈p.it:=λi hi=>by rw [<-s] at hi;exact (I9 p.it).mem_iff.1 hi
 have hi30:=Y.i;have S:=Y.r;have Q:(er p).Nodup:=G9 hE;have R:(er p).length=p.ro.length:=ψ _;have P:=DI (HX hE).2.1;rw [s];refine As func65 Z Z ntmps65 Z Z Z λF w=>(AC (AE ?_));refine V (Bz 1 Z Z Z Z Z Z Z) (AB Z Z (AD (AC (AE (V (O4 50 Z Z Z Z) (AB Z Z (AD (AC ?_))))))));refine AC (AE (J (AU Z Dp Z Z Z) (J (A2 Z Z Z Ob Z) (J (CB Z S1 Z) (dd Z Z (AD (A0 (BX (α:=Nat) (λk=>⟨76,[(1,.d (.fn g [] o)),(2,(.ptr 1 0 0)),(5,(.map 50 0)),(19,(.d (.sl none (p.ro.map Bt)))),(20,(.d (AF (p.ro.length:Int)))),(21,(.d (AF (k:Int))))],[(1,[.blk 39 [.d (.sl none (p.ro.map Bt)),.d (.sl none (p.it.map Af))]]),(50,[BB CC Aa (At ((er p).take k))]),(41,[.multi N])]⟩) (λk=>k<=p.ro.length) (λk=>p.ro.length - k) (0) (υ _) (AY w [1,50,41] Z Z ⟨Z,Z,Z,Z,Z,Z,trivial⟩) ?_))))))));rintro k hk;refine AC (AE (J (BN Z Z Z) (AD (AC (Ac Z (λH=>?_) (λH=>?_))))))
 .refine AZ (AC (A0 (AC ?_)));have l:k<p.ro.length:=Ba H;refine AE (J (Bh (k) Z Z (Z) (Ab l) S1 Z Ln Z) ?_);refine J (GW Z Z Ui Z) (V (Bn 2 QI Z Z Z Z) (V (B1 Z Z Z Z Z Z Z Ln) (AD (AE (dd Z Z (J (AU Z EU Z Z Z) (J (BE Z Z CQ Z Z Z) (V (UO (At ((er p).take k)) (p.ro[k].r) (true) Z Z Z P9 By Z Z) ?_))))))));rw [oF Q l];refine AD (AE (J (Ar Z Z (AO (k+1) (by omega)) Z) (dd Z Z (AD ?_))));exact ⟨k+1,l,by omega,AY w [1,50,41] Z (Z) ⟨Z,Z,Z,Z,Z,Z,trivial⟩⟩
 .refine BC (AC ?_);have z:k=p.ro.length:=by have:=H;omega
  rw [z,<-R,fw];refine AE (AB Z Z (AD (AC (AE (J (AU Z Cy Z Z Z) (J (A2 Z Z Z Is Z) (V (EX (ZA p.it (by omega)) Z [20] ⟨Z,trivial⟩ Z Z Z Z Z Z Z Z Z) (AB Z Z ?_))))))));refine AD (AC (AE (dd Z Z (V (Lz nL (k:=6) (by decide) isAgg55 sizeOf55 func116 Z Z Sw TX dA p.it c (by omega) (λx _ y _=>V3 x y) (λys g1 g2=>by rw [<-s];exact Q3 P g1 (g2.imp λ{a b} h h2=>h (TW.2 h2))) Z Z Z LF Z Z Z Z Z) (AD (AC (AC (Ls (emb:=Af) 9 20 c Z Z Z X.symm Z Z Z ?_))))))));refine Fc 40 Z Z Z (AE (dd Z Z (J (CB Z F0 Z) (dd Z Z (AD (A0 (Ou 8 30 aS Z Z Z Z (BX (α:=Nat×List (eR×Nat)×MF) (λq=>⟨76,[(1,.d (.fn g [] o)),(2,(.ptr 1 0 0)),(5,(.map 50 0)),(8,(.own 30 0 q.2.1.length)),(34,(.d (.sl none (c.map Af)))),(35,(.d (AF (c.length:Int)))),(36,(.d (AF (q.1:Int))))],[(50,[BB CC Aa (At (er p))]),(41,[.multi N]),(30,[.rowD 131 7 (q.2.1.map C4)]),(40,[.multi q.2.2])]⟩) (λq=>q.1<=c.length/\Vm (er p) q.2.2 q.2.1/\q.2.1.map Prod.fst=(c.take q.1).filter λi=>I i.id) (λq=>c.length - q.1) ((0,[],_)) (⟨υ _,(λe he=>by cases he),Z⟩) (AY w [50,41,30,40] Z Z ⟨Z,Z,Z,Z,Z,Z,Z,trivial⟩) ?_))))))));rintro ⟨k,E,M⟩ ⟨hk,O,t⟩;dsimp only at hk O t⊢;refine AC (AE (J (BN Z Z Z) (AD (AC (Ac Z (λG=>?_) (λG=>?_))))))
  .refine AZ (AC (A0 (AC ?_)));have l:k<c.length:=Ba G;have U:=K _ (ξ l);have T:=Y.x _ U;have hEl:E.length<=30:=by have h1:(E.map Prod.fst).length<=c.length:=(by rw [t];exact fO (gM _ _) (by rw [Ξ];omega));rw [ψ] at h1;omega
   refine AE (J (Bh (k) Z Z (Z) (Ab l) F0 Z CY Z) (J (GW Z Z Bs Z) (V (Bn 2 E4 Z Z Z Z) (V (B1 Z Z Z Z Z Z Z CY) (AD (AC ?_))))));refine AC (AE (dd Z Z (J (AU Z OY Z Z Z) (J (A2 Z Z Z Aw Z) (V (UZ (hq c[k].id) Z [41] ⟨Z,trivial⟩ Z Z Z Z Z Z Z Z Z) (J (OZ Z Z) (AD (JJ Z (λC=>?_) (λC=>?_)))))))))
   .have u:¬I c[k].id=true:=by simpa using C
    refine BC (AE (J (Ar Z Z (AO (k+1) (by omega)) Z) (dd Z Z (AD ?_))));exact ⟨(k+1,E,M),⟨l,O,by show _=(c.take (k+1)).filter _;rw [χ l,iJ,t,hG,θ u];simp⟩,by show c.length - (k+1)<c.length - k;omega,AY w [50,41,30,40] Z (Z) ⟨Z,Z,Z,Z,Z,Z,Z,trivial⟩⟩
   .have u:I c[k].id=true:=by simpa using C
    refine AZ (AC (AE (J (BE Z Z Bs Z Z Z) (V (O4 51 Z Z Z Z) (Ko 46 51 40 w Z Z Z Z Z Z Z Z Z Z (λ_=>rfl) λL hb=>(cj 40 L Z (EB _ _ _) Z ?_))))));rw [FG];refine J (Fe LS sF Z Z Z) (V (Bn 3 LS Z Z Z Z) (V (B1 Z Z Z Z Z Z Z FX) (AD (AC ?_))));refine AE (J (BE Z Z Bs Z Z Z) (J (BT (T4 c[k] (by omega) (by omega) (by omega)) Z Z) (dd Z Z (J (C6 Z Z Z) (J (C6 Z Z Z) (AB Z Z (AB Z Z (AD ?_))))))));refine AC (AC (AE (dd Z Z (J (CB Z underlying215 Z) (dd Z Z (AD (A0 (BX (α:=Nat) (λj=>⟨76,[(1,.d (.fn g [] o)),(2,(.ptr 1 0 0)),(5,(.map 50 0)),(8,(.own 30 0 E.length)),(12,(.ptr 3 0 0)),(34,(.d (.sl none (c.map Af)))),(35,(.d (AF (c.length:Int)))),(36,(.d (AF (k:Int)))),(53,(.d (.sl none ((eS c[k]).map Oj)))),(54,(.d (AF ((eS c[k]).length:Int)))),(55,(.d (AF (j:Int))))],[(3,[.blk 131 [.d (AF c[k].id),.d (AF c[k].pr),.d (AF c[k].sq),.d (.sl none (c[k].po.map CF)),.d (.sl none (c[k].pa.map Fk)),.d (.sl none (c[k].af.map AF)),.d (mD L)]]),(50,[BB CC Aa (At (er p))]),(41,[.multi N]),(30,[.rowD 131 7 (E.map C4)]),(40,[.multi (BJ M L (.map none (Iz (dK (er p) c[k] j))))])]⟩) (λj=>j<=(eS c[k]).length) (λj=>(eS c[k]).length - j) (0) (υ _) (AY w [3,50,41,30,40] Z Z ⟨Z,Z,Z,Z,Z,Z,Z,Z,Z,Z,Z,trivial⟩) ?_))))))));rintro j hj;refine AC (AE (J (BN Z Z Z) (AD (AC (Ac Z (λB=>?_) (λB=>?_))))))
    .refine AZ (AC (A0 (AC ?_)));have hdl:=MR (x:=c[k]) T;have v:j<(eS c[k]).length:=Ba B;refine AE (J (Bh (j) Z Z (Z) (Ab v) underlying215 Z Vz Z) (J (GW Z Z mw Z) (V (Bn 4 ZZ Z Z Z Z) (V (B1 Z Z Z Z Z Z Z Vz) ?_))));refine AD (AC (AE (dd Z Z (J (AU Z Jw Z Z Z) (J (BE Z Z CQ Z Z Z) (J (HY (At (er p)) ((eS c[k])[j]).1 false _ Z Z Z P9 By Rd (XZ _ _) Z) (AD (Ac Z (λA=>?_) (λA=>?_)))))))))
     .refine AE (J (AU Z KG Z Z Z) (J (A2 Z Z Z S2 Z) (J (AU Z Jw Z Z Z) (J (BE Z Z CQ Z Z Z) (J (AU Z Wv Z Z Z) (J (A2 Z Z Z Km Z) (V (Mf (f:=40) (dK (er p) c[k] j) ((eS c[k])[j]).1 ((eS c[k])[j]).2 Z Z (EB _ _ _) Z Bq By Z Z) ?_)))))));rw [FG,qB v A];refine AD (AE (J (Ar Z Z (AO (j+1) (by omega)) Z) (dd Z Z (AD ?_))));exact ⟨j+1,v,by omega,AY w [3,50,41,30,40] Z (Z) ⟨Z,Z,Z,Z,Z,Z,Z,Z,Z,Z,Z,trivial⟩⟩
     .refine AZ (AE (J (Ar Z Z (AO (j+1) (by omega)) Z) (dd Z Z (AD ?_))));exact ⟨j+1,v,by omega,AY w [3,50,41,30,40] Z (by simp only [lP v A];rfl) ⟨Z,Z,Z,Z,Z,Z,Z,Z,Z,Z,Z,trivial⟩⟩
    .refine BC ?_;have W:j=(eS c[k]).length:=by have:=B;omega
     rw [W,qC];refine AE (dd Z Z ?_);refine J (BE Z Z JV Z Z Z) (V (D6 31 aS Z Z Z Z Z Z Z Z) (V (H1 (E) ([(c[k],L)]) Z Z Z Z Z Z Z Z aS (by simp only [Φ];omega) Z Z Z Z) (AB Z Z (AD (AE (J (Ar Z Z (AO (k+1) (by omega)) Z) (dd Z Z (AD ?_))))))));exact ⟨(k+1,E++ [(c[k],L)],_),⟨l,O.add hb,by show _=(c.take (k+1)).filter _;rw [χ l,iJ,fU,t,hG,ϱ u];rfl⟩,by show c.length - (k+1)<c.length - k;omega,AY w [50,41,30,40] Z (Z) ⟨Z,Z,Z,Z,Z,Z,Z,trivial⟩⟩
  .refine BC (AC ?_);have z:k=c.length:=by have:=G;omega
   rw [z,fw] at t;refine Ls (emb:=C4) 8 30 E Z Z Z Z Z Z Z (AE (dd Z Z (AB Z Z (AD (A4 ?_)))));exact ⟨_,[41,40],_,A3 Z,Z,Z,E,M,Z,Z,O,t⟩
abbrev AL (n:Nat):D:=AF (n:Int)
abbrev en (l:List Nat):D:= .sl none (l.map AL)
theorem Nn (a:k<h.length):(h.map AL)[k]? =some (AL (e9 h k)):=by rw [Ab a,Ov a]
theorem eqv {a b:D} (h:a=b):AV.d a=AV.d b:=by rw [h]
theorem tT {j:List Nat} {a:Nat} (f:a<h.length) (c:s<h.length):((h++j).set a (e9 h s)).set s (e9 h a)=LV h a s++j:=by
 rw [List.set_append_left _ _ f,List.set_append_left _ _ (by simpa using c)];rfl
theorem mc (l j:List Nat):((l++j).map AL).take l.length++ [AL F].take 1=(l++ [F]).map AL:=by
 rw [<-List.map_take,List.take_left];simp
theorem tl {j:List Nat} (a:0<h.length):h.take (h.length - 1)++([e9 h (h.length - 1)]++j)=h++j:=by grind [jH,m0,Ov]
theorem tk (j:Nat):Int.tdiv ((j:Int) - 1) 2=(((j - 1) / 2:Nat):Int):=by grind
theorem AJ.top {P:Program} {f:FuncId} {a:List AV} {k j:Hp} (h:AJ P f a k λr c=>(∃b:Bool,r= .d (Aa b))/\c=j):AJ P f a k λr c=>r= .top/\c=j:=
 ⟨h.1,λF l o y x i w u t=>(h.2 F l o y x i w u t).mono λe B ⟨v,r,c,g,A,⟨_,z⟩,_,s⟩=>⟨v,.top,c,g,A,⟨Z,z⟩,.top,s⟩⟩
theorem uN {p q:Prop} [Decidable p] [Decidable q] (h:p↔q):AV.d (Aa (decide p))=AV.d (Aa (decide q)):=by rw [decide_eq_decide.2 h]
theorem rp:E9 prog 3=true:=by kernel_rfl
theorem au:E9 prog 321=true:=by kernel_rfl
theorem sU:JK prog 321 "Len" 223:=λb w=>by kernel_rfl
theorem cE:JK prog 321 "Less" 296:=λb w=>by kernel_rfl
theorem cD:JK prog 321 "Swap" 299:=λb w=>by kernel_rfl
theorem sT:JK prog 321 "Push" 298:=λb w=>by kernel_rfl
theorem uA:JK prog 321 "Pop" 297:=λb w=>by kernel_rfl
abbrev L7 (g:List (List Nat)):D:= .sl none (g.map en)
structure GB (g:List (List Nat)):Prop where
 n:g.length<=65536
 e:∀l∈g,l.length<=1048576
 lt:∀l∈g,∀x∈l,x<g.length
theorem Ev (h:i<g.length):eW g i=g[i]:=by simp [eW,h]
theorem Ym (h:i<g.length):(g.map en)[i]? =some (en (eW g i)):=by rw [Ab h,Ev h]
theorem GB.len (h:GB g) {i:Nat} (a:i<g.length):(eW g i).length<=1048576:=by rw [Ev a];exact h.e _ (ξ a)
theorem GB.suc (h:GB g) (b:i<g.length) (a:F∈eW g i):F<g.length:=by rw [Ev b] at a;exact h.lt _ (ξ b) F a
def RJ (g:List (List Nat)) (i j:Nat):Nat:=((List.range i).map λa=>(eW g a).count j).sum
theorem Pv (g:List (List Nat)) (i j:Nat):RJ g (i+1) j=RJ g i j+(eW g i).count j:=by
 unfold RJ;rw [gT,fU,i6];simp
theorem XF {g:List (List Nat)} (h:GB g) (j:Nat):∀i,i<=g.length ->RJ g i j<=i*1048576
 | 0,_=>by simp [RJ]
 | i+1,b=>by
  have:=XF h j i (by omega);have:=List.count_le_length (a:=j) (l:=eW g i);have:=h.len (i:=i) (by omega);rw [Pv];omega
theorem dZ (g:List (List Nat)) (j:Nat):RJ g g.length j=LJ g [] j:=by
 unfold RJ LJ
 congr 1
theorem U9 (a:k<h.length) (j:Nat):(h.take (k+1)).count j=(h.take k).count j+if e9 h k=j then 1 else 0:=by grind [χ,Ov]
theorem dJ (a:k<h.length):h.drop k=e9 h k::h.drop (k+1):=by rw [Ov a];exact m0 a
theorem r9 (n:Nat):List.replicate n (D.raw (.int .i64 0))=(List.replicate n 0).map AL:=by rw [List.map_replicate];rfl
theorem kW (n k:Nat):e9 (List.replicate n 0) k=0:=by
 unfold e9;rw [Ψ,List.getElem?_replicate];split<;>rfl
theorem pR {v:Nat} (h:H<w.length):((w.set H v).map AL)[H]? =some (AL v):=by grind
theorem lO (h:GB g) (done:List Nat) (j:Nat):LJ g done j<=g.length*1048576:=by
 have b:∀n,n<=g.length ->((List.range n).map λi=>if i∈done then 0 else (eW g i).count j).sum<=n*1048576:=by
  intro n
  induction n with
  | zero=>intro _;exact υ _
  | succ n c=>
   intro s;have r:=c (by omega);have o:=List.count_le_length (a:=j) (l:=eW g n);have k:=h.len (i:=n) (by omega)
   have f:(if n∈done then 0 else (eW g n).count j)<=1048576:=by
    by_cases e:n∈done
    .rw [ϱ e];exact υ _
    .rw [θ e];exact fO o k
   rw [gT,fU,i6,List.map_singleton,List.sum_singleton,Nat.succ_mul];exact Nat.add_le_add r f
 exact b _ (ϖ _)
theorem oY {q b:List Nat} (c:GB g) (h:OI g K w q z (H::b)) (f:H<g.length) (j:b.length<=1048576):e9 w H<=69000000000:=by
 have o:=lO c z H;have k:=c.n;have i:=List.count_le_length (a:=H) (l:=H::b);rw [h.deg H f];rw [i3] at i;omega
theorem oZ {q:List Nat} (h:OI g K w q z ((eW g F).drop k)) (e:k=(eW g F).length):OI g K w q z []:=by
 rw [e,List.drop_length] at h;exact h
noncomputable def gB (g:List (List Nat)) (K:Nat ->Nat):List Nat:=Classical.epsilon λout=>QF g K out/\∀y,¬Cm g out y
theorem kL (i:∀a b,a<g.length ->b<g.length ->K a=K b ->a=b) (f:QF g K z) (c:∀y,¬Cm g z y):gB g K=z:=by
 have h:QF g K (gB g K)/\∀y,¬Cm g (gB g K) y:=Classical.epsilon_spec (p:=λz=>QF g K z/\∀y,¬Cm g z y) ⟨z,f,c⟩;exact cm i h.1 f h.2 c
structure FI (K:Nat ->Nat) (w:List Nat) (i:Nat) (l:List Nat):Prop where
 nd:l.Nodup
 mem:∀x,x∈l↔x<i/\e9 w x=0
 hp:ID K l
theorem FI.le (a:FI K w i h):h.length<=i:=by
 have:=Ck a.nd (m:=List.range i) λx b=>Θ.2 ((a.mem x).1 b).1
 grind
theorem kt (K:Nat ->Nat) (w:List Nat):FI K w 0 []:=⟨.nil,λx=>by simp,λi b a=>by simp at a⟩
theorem kx (a:FI K w i h) (f:e9 w i=0):FI K w (i+1) (L6 K h i):=by
 have b:=Nh K h i;refine ⟨b.nodup_iff.2 (i5.2 ⟨λc=>ir _ ((a.mem i).1 c).1,a.nd⟩),λx=>?_,Ni a.hp i⟩;rw [b.mem_iff,fP,a.mem]
 grind
theorem kw (a:FI K w i h) (b:e9 w i≠0):FI K w (i+1) h:=by
 refine ⟨a.nd,λx=>?_,a.hp⟩;rw [a.mem]
 grind
structure CW (g:List (List Nat)) (i k:Nat) (w:List Nat):Prop where
 len:w.length=g.length
 val:∀j,j<g.length ->e9 w j=RJ g i j+((eW g i).take k).count j
theorem lQ (g:List (List Nat)):CW g 0 0 (List.replicate g.length 0):=⟨by simp,λj _=>by rw [kW];simp [RJ]⟩
theorem lR (c:GB g) (h:CW g i k w) (s:i<g.length) (o:k<(eW g i).length):
  e9 (eW g i) k<w.length/\e9 w (e9 (eW g i) k)<=100000000000/\CW g i (k+1) (w.set (e9 (eW g i) k) (e9 w (e9 (eW g i) k)+1)):=by
 have f:e9 (eW g i) k<g.length:=c.suc s (DZ o);have b:e9 (eW g i) k<w.length:=by rw [h.len];exact f
 refine ⟨b,?_,⟨by simpa using h.len,λj r=>?_⟩⟩
 .rw [h.val _ f];have:=XF c (e9 (eW g i) k) i (by omega);have:=List.count_le_length (a:=e9 (eW g i) k) (l:=(eW g i).take k);rw [Ξ] at this;have:=c.len s;have:=c.n;omega
 .rw [J7 b,U9 o]
  by_cases e:e9 (eW g i) k=j
  .rw [ϱ e.symm,ϱ e,e,h.val j r];omega
  .rw [θ λt=>e t.symm,θ e,h.val j r];omega
theorem qD (h:CW g i (eW g i).length w):CW g (i+1) 0 w:=⟨h.len,λj a=>by rw [h.val j a,fw,Pv];simp⟩
theorem qE (h:CW g g.length 0 w):w.length=g.length/\∀j,j<g.length ->e9 w j=LJ g [] j:=
 ⟨h.len,λj a=>by rw [h.val j a,dZ];simp⟩
def ZQ (rs:List AM) (a b:eR):Prop:=(∃d∈dR rs a,d.2<0/\0<A1 (dR rs b) d.1 0)\/b.id∈a.af
noncomputable instance (rs:List AM) (a b:eR):Decidable (ZQ rs a b):=Classical.propDecidable _
theorem GG {b a:List u} {x:List u} {y:u} {c:List u} (h:(b++x).Perm c) (f:x.Perm (y::a)):((b++ [y])++a).Perm c:=by
 refine List.Perm.trans ?_ h;rw [io];exact (List.Perm.append_left b f).symm
theorem cK {m:List (u×I)} {x:u×I} (h:m[t]? =some x):x∈m:=ϑ h
theorem jV (a b:eR×Nat) (H:M a.2=some (.map none (Iz (dR j a.1)))) (w:M b.2=some (.map none (Iz (dR j b.1)))) (Q:a.1.af.length<=100000):
  AJ prog 132 [.d (C4 a),.d (C4 b)] [(40,[.multi M])] λr H'=>r= .d (Aa (decide (ZQ j a.1 b.1)))/\H'=[(40,[.multi M])]:=by
 obtain ⟨a,o⟩:=a;obtain ⟨b,O⟩:=b;dsimp only at H w Q⊢
 obtain ⟨L,S⟩:∃L,dR j a=L:=⟨_,Z⟩
 have I:ZQ j a b↔((∃d∈L,d.2<0/\0<A1 (dR j b) d.1 0)\/b.id∈a.af):=by rw [<-S];exact Iff.rfl
 rw [S] at H;refine As func132 Z Z ntmps132 Z Z Z λF R=>(AC (LQ 40 o Z H (λ_ _=>rfl) λB c X W=>?_))
 obtain ⟨C,s⟩:∃C,BJ M o (.map (some (B,c)) (Iz L))=C:=⟨_,Z⟩
 rw [s];have i:C o=some (.map (some (B,c)) (Iz L)):=by rw [<-s,EB]
 have z:∃bs,C O=some (.map bs (Iz (dR j b))):=by
  by_cases e:O=o
  .subst e;rw [H] at w;injection w with w;injection w with _ w;exact ⟨_,by rw [i,w]⟩
  .exact ⟨none,by rw [<-s,Ft e];exact w⟩
 obtain ⟨Y,z⟩:=z;have k:BJ C o (.map none (Iz L))=M:=by rw [<-s,FG];exact Ks H
 refine AE (V (Bz 20 Z Z Z Z Z Z Z) (V (Bz 21 Z Z Z Z Z Z Z) (AB Z Z (AD ?_))));refine AC (AC (AE (J (AU Z KG Z Z Z) (J (A2 Z Z Z S2 Z) (V (K4 22 (f:=40) Z Z (i) Z Bq Z Z Z Z) (AD (A0 (BX (α:=List Nat×List (AM×Int)) (λq=>⟨31,[(2,(.ptr 20 0 0)),(3,(.ptr 21 0 0)),(9,(.ptr 22 0 0))],[(20,[.blk 131 [.d (AF a.id),.d (AF a.pr),.d (AF a.sq),.d (.sl none (a.po.map CF)),.d (.sl none (a.pa.map Fk)),.d (.sl none (a.af.map AF)),.d (mD o)]]),(21,[.blk 131 [.d (AF b.id),.d (AF b.pr),.d (AF b.sq),.d (.sl none (b.po.map CF)),.d (.sl none (b.pa.map Fk)),.d (.sl none (b.af.map AF)),.d (mD O)]]),(22,[.iter 40 o c q.1]),(40,[.multi C])]⟩) (λq=>(q.2++Bi L B q.1).Perm L/\∀d∈q.2,¬(d.2<0/\0<A1 (dR j b) d.1 0)) (λq=>(Bi L B q.1).length) (([],[])) (⟨by show ([]++Bi L B []).Perm L;rw [mH (by simpa [BK] using X)];exact List.Perm.refl _,(λd y=>by cases y)⟩) (AY R [20,21,22,40] Z Z ⟨Z,Z,Z,trivial⟩) ?_))))))));rintro ⟨seen,A⟩ ⟨K,N⟩;dsimp only at K N⊢;refine AC (AE (Q5 (L) Z Z Z (i) Z (λE=>?_) (λP l x D v G T g=>⟨_,Z,?_⟩)))
 .rw [E] at K;refine cj 40 o Z i Z ?_;rw [k];refine J (Cf Z Z Z) (AD (AC (D3 Z Z (BC (AC (AE (J (AU Z IZ Z Z Z) ?_)))))));refine J (AU Z Do Z Z Z) (J (A2 Z Z Z BG Z) (J (AU Z IZ Z Z Z) (J (AU Z OY Z Z Z) (J (A2 Z Z Z Aw Z) (J (BT (OG a.af b.id (by omega)) Z Z) (AB Z Z (AD (A4 ?_))))))));exact ⟨_,[40],_,A3 Z,Z,Z,by rw [decide_eq_decide.2 (I.trans ⟨λh=>h.resolve_left λ⟨d,y,U⟩=>N d ((show A.Perm L by simpa using K).mem_iff.2 y) U,.inr⟩)],Z⟩
 .refine J (Cf Z Z Z) (AD (AC ?_));refine DO Z Z (AZ (A0 (AC (AE (J (K5 (L) P l Z Z Z (i) v G Z) (J (Cf Z Z Z) (J (Cf Z Z Z) (V (Bn 23 JM Z Z Z Z) ?_))))))));refine V (B1 Z Z Z Z Z Z Z Xd) (AB Z Z (AD (AC (AE (dd Z Z (J (BN Z Z Z) (dd Z Z (Ij 17 Z (λu=>?_) (λu=>?_)))))))))
  .refine Ad Z Z Z (J (AU Z KG Z Z Z) (Ad Z Z Z (J (A2 Z Z Z S2 Z) ?_)));refine Ad Z Z Z (J (BE Z Z CQ Z Z Z) (Ad Z Z Z (J (SA (f:=40) (dR j b) x 0 _ Z Z z Z Bq By O1 Z Z) (Ad Z Z Z (J (Ot Z Z Z) (J (Ff Z Z Z Z) (AD (Ac Z (λt=>?_) (λt=>?_)))))))))
   .refine AC (mF 40 o Z i Z ?_);rw [k];refine AE (AB Z Z (AD (A4 ?_)));exact ⟨_,[40],_,A3 Z,Z,Z,by rw [Υ (I.2 (.inl ⟨_,cK v,u,t⟩))],Z⟩
   .refine AZ ?_;exact ⟨(seen++ [l],A++ [(x,D)]),⟨GG K g,λd y=>(ν.1 y).elim (N d) λe=>by rw [ζ.1 e];first | exact λh=>u h.1 | exact λh=>t h.2⟩,by show (Bi L B (seen++ [l])).length<(Bi L B seen).length;rw [g.length_eq];exact iC _,AY R [20,21,22,40] Z (Z) ⟨Z,Z,Z,trivial⟩⟩
  .refine A9 Z Z Z Z (A9 Z Z Z Z (A9 Z Z Z Z (A9 Z Z Z Z (A9 Z Z Z Z (J (EA Z Z Z Z) (AD (D3 Z Z (AZ ?_))))))));exact ⟨(seen++ [l],A++ [(x,D)]),⟨GG K g,λd y=>(ν.1 y).elim (N d) λe=>by rw [ζ.1 e];first | exact λh=>u h.1 | exact λh=>t h.2⟩,by show (Bi L B (seen++ [l])).length<(Bi L B seen).length;rw [g.length_eq];exact iC _,AY R [20,21,22,40] Z (Z) ⟨Z,Z,Z,trivial⟩⟩
def Cw (E:List (eR×Nat)) (k:Nat):eR:=(E.getD k (eT,0)).1
noncomputable def iA (rs:List AM) (E:List (eR×Nat)) (a:eR) (k:Nat):List Nat:=(List.range k).filter λj=>decide (ZQ rs a (Cw E j))
noncomputable def gv (rs:List AM) (E:List (eR×Nat)):List (List Nat):=E.map λe=>iA rs E e.1 E.length
theorem jX (h:ZQ j C (Cw E k)):iA j E C (k+1)=iA j E C k++ [k]:=by
 unfold iA;rw [gT,iJ];simp [h]
theorem Zf (h:¬ZQ j C (Cw E k)):iA j E C (k+1)=iA j E C k:=by
 unfold iA;rw [gT,iJ];simp [h]
theorem Vr (b:List AM) (E:List (eR×Nat)) (a:eR) (k:Nat):(iA b E a k).length<=k:=by grind [iA]
theorem CX (a:k<E.length):Cw E k=(E[k]).1:=by unfold Cw;rw [Ψ,ω a];rfl
theorem Gn (a:List AM) (E:List (eR×Nat)):(gv a E).length=E.length:=ψ _
theorem ko (E:List (eR×Nat)) (x:Vm j M E) (C:E.length<=1000) (w:∀e∈E,e.1.af.length<=100000):
  AJ prog 77 [.d (.sl none (E.map C4))] [(40,[.multi M])] λr D=>r= .d (L7 (gv j E))/\D=[(40,[.multi M])]:=by
 refine As func77 Z Z ntmps77 Z Z Z λF o=>?_;refine AC (AE (AB Z Z (AD (AC (AE (AB Z Z (AD (AC ?_))))))));refine AC (AE (dd Z Z (J (CB Z Ri Z) (dd Z Z (AD (A0 (Ou 3 10 WL Z Z Z Z (BX (α:=Nat×List (List Nat)) (λq=>⟨36,[(0,.d (.sl none (E.map C4))),(3,(.own 10 0 q.2.length)),(9,(.d (.sl none (E.map C4)))),(10,(.d (AF (E.length:Int)))),(11,(.d (AF (q.1:Int))))],[(10,[.rowD 28 1 (q.2.map en)]),(40,[.multi M])]⟩) (λq=>q.1<=E.length/\q.2=(gv j E).take q.1) (λq=>E.length - q.1) ((0,[])) (⟨υ _,Z⟩) (AY o [10,40] Z Z ⟨Z,Z,Z,Z,Z,trivial⟩) ?_))))))));rintro ⟨i,G⟩ ⟨z,s⟩;dsimp only at z s⊢;refine AC (AE (J (BN Z Z Z) (AD (AC (Ac Z (λg=>?_) (λg=>?_))))))
 .refine AZ (AC (A0 (AC ?_)));have b:i<E.length:=Ba g;have B:G.length<=1000:=by rw [s,Ξ];omega
  have l:=ξ b;refine AE (J (Bh (i) Z Z (Z) (Ab b) Ri Z FX Z) ?_);refine J (GW Z Z JV Z) (V (Bn 21 LS Z Z Z Z) (V (B1 Z Z Z Z Z Z Z FX) (AD (AC (AE (AB Z Z (AD (AC ?_))))))));refine AC (AE (dd Z Z (J (CB Z Ri Z) (dd Z Z (AD (A0 (Ou 6 11 BV Z Z Z Z (BX (α:=Nat×List Nat) (λq=>⟨36,[(0,.d (.sl none (E.map C4))),(3,(.own 10 0 G.length)),(5,(.ptr 21 0 0)),(6,(.own 11 0 q.2.length)),(9,(.d (.sl none (E.map C4)))),(10,(.d (AF (E.length:Int)))),(11,(.d (AF (i:Int)))),(15,(.d (.sl none (E.map C4)))),(16,(.d (AF (E.length:Int)))),(17,(.d (AF (q.1:Int))))],[(21,[.blk 131 [.d (AF (E[i]).1.id),.d (AF (E[i]).1.pr),.d (AF (E[i]).1.sq),.d (.sl none ((E[i]).1.po.map CF)),.d (.sl none ((E[i]).1.pa.map Fk)),.d (.sl none ((E[i]).1.af.map AF)),.d (mD (E[i]).2)]]),(11,[.rowD 3 1 (q.2.map AL)]),(10,[.rowD 28 1 (G.map en)]),(40,[.multi M])]⟩) (λq=>q.1<=E.length/\q.2=iA j E (E[i]).1 q.1) (λq=>E.length - q.1) ((0,[])) (⟨υ _,Z⟩) (AY o [21,11,10,40] Z Z ⟨Z,Z,Z,Z,Z,Z,Z,Z,Z,Z,trivial⟩) ?_))))))));rintro ⟨k,T⟩ ⟨y,h⟩;dsimp only at y h⊢;refine AC (AE (J (BN Z Z Z) (AD (AC (Ac Z (λf=>?_) (λf=>?_))))))
  .refine AZ (AC (A0 (AC ?_)));have a:k<E.length:=Ba f;have A:T.length<=1000:=by have:=Vr j E (E[i]).1 k;rw [<-h] at this;omega
   have v:=ξ a;refine AE (dd Z Z (J (Bh (k) Z Z (Z) (Ab a) Ri Z FX Z) (J (GW Z Z JV Z) (V (Bn 22 LS Z Z Z Z) (AB Z Z ?_)))));refine V (B1 Z Z Z Z Z Z Z FX) (AD (AC (AE (J (BE Z Z JV Z Z Z) (J (BE Z Z JV Z Z Z) (V (EX (jV E[i] E[k] (x _ l) (x _ v) (w _ l)) Z [40] ⟨Z,trivial⟩ Z Z Z Z Z Z Z Z Z) (AD (Ac Z (λc=>?_) (λc=>?_)))))))))
   .refine AE (dd Z Z ?_);refine dd Z Z (V (D6 30 BV Z Z Z Z Z Z Z Z) (V (H1 (T) ([k]) Z Z Z Z Z Z Z Z BV (by simp only [Φ];omega) Z Z Z Z) (AB Z Z (AD (AE (J (Ar Z Z (AO (k+1) (by omega)) Z) (dd Z Z (AD ?_))))))));exact ⟨(k+1,T++ [k]),⟨a,by show _=iA j E _ (k+1);rw [jX (by rw [CX a];exact c),h]⟩,by show E.length - (k+1)<E.length - k;omega,AY o [21,11,10,40] Z (Z) ⟨Z,Z,Z,Z,Z,Z,Z,Z,Z,Z,trivial⟩⟩
   .refine AZ (AE (J (Ar Z Z (AO (k+1) (by omega)) Z) (dd Z Z (AD ?_))));exact ⟨(k+1,T),⟨a,by show _=iA j E _ (k+1);rw [Zf (by rw [CX a];exact c),h]⟩,by show E.length - (k+1)<E.length - k;omega,AY o [21,11,10,40] Z (Z) ⟨Z,Z,Z,Z,Z,Z,Z,Z,Z,Z,trivial⟩⟩
  .refine BC ?_;have t:k=E.length:=by have:=f;omega
   rw [t] at h;refine Ls (emb:=AL) 6 11 T Z Z Z Z Z Z Z ?_;rw [h];refine AE (dd Z Z ?_);refine dd Z Z (V (D6 31 WL Z Z Z Z Z Z Z Z) (V (H1 (G) ([iA j E (E[i]).1 E.length]) Z Z Z Z Z Z Z Z WL (by simp only [Φ];omega) Z Z Z Z) (AB Z Z (AD (AE (J (Ar Z Z (AO (i+1) (by omega)) Z) (dd Z Z (AD ?_))))))));exact ⟨(i+1,G++ [iA j E (E[i]).1 E.length]),⟨b,by show _=(gv j E).take (i+1);rw [s,χ (by rw [Gn];exact b)];congr 1;simp [gv]⟩,by show E.length - (i+1)<E.length - i;omega,AY o [10,40] Z (Z) ⟨Z,Z,Z,Z,Z,trivial⟩⟩
 .refine BC (AC ?_);have u:i=E.length:=by have:=g;omega
  refine Ls (emb:=en) 3 10 G Z Z Z Z Z Z Z ?_;rw [s,u,ς (by rw [Gn];exact ϖ _)];refine AE (dd Z Z (AB Z Z (AD (A4 ?_))));exact ⟨_,[40],_,A3 Z,Z,Z,Z,Z⟩
def Cc (E:List (eR×Nat)) (l:List Nat):List Int:=l.map λk=>(Cw E k).id
theorem sc (E:List (eR×Nat)) (l:List Nat) (r:∀k∈l,k<E.length) (o:l.length<=1000000):AK prog 78 [.d (.sl none (E.map C4)),.d (en l)] (.sl none ((Cc E l).map AF)):=by
 refine As func78 Z Z ntmps78 Z Z Z λF j=>?_;refine AC (AE (AB Z Z (AD (AC (AE (AB Z Z (AD (AC ?_))))))));refine AC (AE (dd Z Z (J (Ii Z (ψ ..) E0 Z) (dd Z Z (AD (A0 (Ou 5 10 BV Z Z Z Z (BX (α:=Nat×List Int) (λq=>⟨25,[(0,.d (.sl none (E.map C4))),(5,(.own 10 0 q.2.length)),(8,(.d (en l))),(9,(.d (AF (l.length:Int)))),(10,(.d (AF (q.1:Int))))],[(10,[.rowD 3 1 (q.2.map AF)])]⟩) (λq=>q.1<=l.length/\q.2=Cc E (l.take q.1)) (λq=>l.length - q.1) ((0,[])) (⟨υ _,Z⟩) (AY j [10] Z Z ⟨Z,Z,Z,Z,Z,trivial⟩) ?_))))))));rintro ⟨k,T⟩ ⟨s,f⟩;dsimp only at s f⊢;refine AC (AE (J (BN Z Z Z) (AD (AC (Ac Z (λb=>?_) (λb=>?_))))))
 .refine AZ (AC (A0 (AC ?_)));have a:k<l.length:=Ba b;have t:T.length<=1000000:=by rw [f];unfold Cc;rw [ψ,Ξ];omega
  have c:l[k]<E.length:=r _ (ξ a);have h:(l.map AL)[k]? =some (AL l[k]):=Ab a;have i:(E.map C4)[l[k]]? =some (C4 E[l[k]]):=Ab c;refine AE (J (Bh (k) Z Z (Z) (h) E0 Z BU Z) (J (D2 Z Z Aw Z) (AB Z Z ?_)));refine AD (AE (dd Z Z (dd Z Z (dd Z Z (J (Bh (l[k]) Z Z (Z) (i) Ri Z FX Z) (J (De Z IZ Z Z Z) (J (mO Z OY Z Z Z) (J (D2 Z Z Aw Z) ?_))))))));rw [show ((E[l[k]]).1.id:Int)=(Cw E l[k]).id by rw [CX c]];refine V (D6 30 BV Z Z Z Z Z Z Z Z) (V (H1 (T) ([(Cw E l[k]).id]) Z Z Z Z Z Z Z Z BV (by simp only [Φ];omega) Z Z Z Z) (AB Z Z (AD (AE (J (Ar Z Z (AO (k+1) (by omega)) Z) (dd Z Z (AD ?_)))))));exact ⟨(k+1,T++ [(Cw E l[k]).id]),⟨a,by show _=Cc E (l.take (k+1));rw [f];unfold Cc;rw [χ a,fU];rfl⟩,by show l.length - (k+1)<l.length - k;omega,AY j [10] Z (Z) ⟨Z,Z,Z,Z,Z,trivial⟩⟩
 .refine BC (AC ?_);have g:k=l.length:=by have:=b;omega
  rw [g,fw] at f;refine Ls (emb:=AF) 5 10 T Z Z Z Z Z Z Z ?_;rw [f];refine AE (dd Z Z (AB Z Z (AD (A4 ?_))));exact ⟨_,[],[],A3 Z,Z,Z,Z,Z⟩
end Go.Proofs.YteifpcnphnhaoaaGreat
namespace Go.Proofs.YteifpcnphnhaoaaGreat
variable {E:List (eR×Nat)} {f:Nat ->Nat} {U:List (AM×Nat)} {a:List AM} {C:Nat ->Nat ->Prop} {P c:Nat ->AM ->Prop} {g:Prop} {k h j:Nat} {i:AM} {o s t:Nat}
noncomputable def dec (p:Prop):Bool:= @decide p (Classical.propDecidable p)
theorem U0:dec g=true↔g:= @decide_eq_true_iff g (Classical.propDecidable g)
theorem T5 (h:g):dec g=true:=U0.2 h
theorem sp (h:¬g):dec g=false:=by grind [dec]
theorem dT {q:Prop} [Decidable g] (h:g↔q):decide g=dec q:=by grind [T5,sp]
def HZ (rs:List AM) (a b:eR):Prop:=b.id∈a.af\/a.id∈b.af\/∃r,r∈(dR rs a).map Prod.fst/\r∈(dR rs b).map Prod.fst
noncomputable instance (rs:List AM) (a b:eR):Decidable (HZ rs a b):=Classical.propDecidable _
theorem HZ.symm {c b:eR} (h:HZ a c b):HZ a b c:=by grind [HZ]
noncomputable def ob (rs:List AM) (E:List (eR×Nat)) (i:Nat):List Nat:=(List.range E.length).filter λj=>decide (i<E.length/\HZ rs (Cw E i) (Cw E j))
theorem Cq:j∈ob a E t↔t<E.length/\j<E.length/\HZ a (Cw E t) (Cw E j):=by grind [ob]
def Cn (rs:List AM) (E:List (eR×Nat)):Nat ->Nat ->Prop:=Rh (ob rs E)
theorem Rh.sym {c:Nat ->List Nat} (g:∀i j,j∈c i ->i∈c j) (h:Rh c s o):Rh c o s:=by
 induction h with
 | refl=>exact .refl _
 | step _ e f=>exact (Rh.one (g _ _ e)).trans f
theorem Cn.symm (h:Cn a E t j):Cn a E j t:=
 Rh.sym (λt j h=>Cq.2 ⟨(Cq.1 h).2.1,(Cq.1 h).1,(Cq.1 h).2.2.symm⟩) h
def D8 (f:Nat ->Nat) (a b:Nat):Nat ->Nat:=λk=>if f k=max (f a) (f b) then min (f a) (f b) else f k
theorem Gi (h:f t=f j):D8 f s o t=D8 f s o j:=by unfold D8;rw [h]
theorem Pe:D8 f s o s=D8 f s o o:=by grind [D8]
structure UF (n:Nat) (C:Nat ->Nat ->Prop) (f:Nat ->Nat):Prop where
 le:∀k,k<n ->f k<=k
 ff:∀k,k<n ->f (f k)=f k
 snd:∀i j,i<n ->j<n ->f i=f j ->C i j
theorem UF.join (c:UF h C f) (x:∀i j k,C i j ->C j k ->C i k) (y:∀i j,C i j ->C j i) (v:s<h) (u:o<h) (r:C s o):UF h C (D8 f s o):=by
 have z:min (f s) (f o)=f s\/min (f s) (f o)=f o:=by omega
 have F:max (f s) (f o)=f s\/max (f s) (f o)=f o:=by omega
 have B:f (min (f s) (f o))=min (f s) (f o):=by
  rcases z with e | e
  .rw [e];exact c.ff s v
  .rw [e];exact c.ff o u
 have E:∀i,i<h ->f i=max (f s) (f o) ->C i s:=λi l e=>by
  rcases F with g | g
  .exact c.snd i s l v (e.trans g)
  .exact x _ _ _ (c.snd i o l u (e.trans g)) (y _ _ r)
 have D:∀i,i<h ->f i=min (f s) (f o) ->C i s:=λi l e=>by
  rcases z with g | g
  .exact c.snd i s l v (e.trans g)
  .exact x _ _ _ (c.snd i o l u (e.trans g)) (y _ _ r)
 refine ⟨λk t=>?_,λk t=>?_,λi j l A e=>?_⟩
 .have:=c.le k t;unfold D8;split<;>omega
 .by_cases e:f k=max (f s) (f o)
  .grind [D8]
  .have w:D8 f s o k=f k:=θ e;rw [w];unfold D8;rw [c.ff k t,θ e]
 .unfold D8 at e
  by_cases w:f i=max (f s) (f o)<;>by_cases g:f j=max (f s) (f o)
  .grind
  .grind
  .grind
  .rw [θ w,θ g] at e;exact c.snd i j l A e
theorem UF.id (n:Nat) (a:∀i,C i i):UF n C (λk=>k):=⟨λ_ _=>ϖ _,λ_ _=>rfl,λi j _ _ (e:i=j)=>by subst e;exact a i⟩
noncomputable def fg (n:Nat) (C:Nat ->Nat ->Prop):List (List Nat):=((List.range n).filter λk=>dec (∀j,j<k ->¬C k j)).map λk=>(List.range n).filter λj=>dec (C k j)
def Y8 (n:Nat) (f:Nat ->Nat) (k:Nat):List Nat:=(List.range n).filter λj=>decide (f j=k)
def Jj (n m:Nat) (f:Nat ->Nat):List (List Nat):=((List.range m).filter λk=>decide (f k=k)).map (Y8 n f)
theorem cO {m:Nat} (a:f m=m):Jj h (m+1) f=Jj h m f++ [Y8 h f m]:=by
 unfold Jj;rw [gT,iJ,fU];simp [a]
theorem Y7 {m:Nat} (a:¬f m=m):Jj h (m+1) f=Jj h m f:=by
 unfold Jj;rw [gT,iJ,fU];simp [a]
theorem cN (n m:Nat) (f:Nat ->Nat):(Jj n m f).length<=m:=by grind [Jj]
theorem ke (a:UF h C f) (w:∀i j,i<h ->j<h ->C i j ->f i=f j):Jj h h f=fg h C:=by
 have g:∀k,k<h ->(f k=k↔∀j,j<k ->¬C k j):=λk b=>by
  constructor
  .intro e j v t;have y:=w k j b (by omega) t;have u:=a.le j (by omega);omega
  .intro x;have y:=a.le k b;rcases Nat.lt_or_ge (f k) k with u | u
   .exact absurd (a.snd k (f k) b (by omega) (a.ff k b).symm) (x _ u)
   .omega
 unfold Jj fg;rw [show ((List.range h).filter λk=>decide (f k=k))=(List.range h).filter λk=>dec (∀j,j<k ->¬C k j) from iD λk b=>dT (g k (Θ.1 b))];refine fi λk b=>?_;obtain ⟨s,r⟩:=Γ.1 b;have c:=Θ.1 s;have o:f k=k:=(g k c).2 (U0.1 r);unfold Y8;refine iD λj v=>dT ?_;have l:=Θ.1 v;exact ⟨λe=>a.snd k j c l (by rw [o,e]),λt=>by rw [<-w k j c l t,o]⟩
structure Ow (rs:List AM) (E:List (eR×Nat)) (P:Nat ->AM ->Prop) (U:List (AM×Nat)) (f:Nat ->Nat):Prop where
 ok:∀e∈U,e.2<E.length/\e.1∈(dR rs (Cw E e.2)).map Prod.fst
 has:∀k r,P k r ->r∈U.map Prod.fst/\f (A1 U r 0)=f k
theorem Ow.keep {b:Nat ->Nat} (h:Ow a E P U f) (g:∀i j,f i=f j ->b i=b j):Ow a E P U b:=
 ⟨h.ok,λk r c=>⟨(h.has k r c).1,g _ _ (h.has k r c).2⟩⟩
theorem Ow.mono (h:Ow a E P U f) (b:∀k r,c k r ->P k r):Ow a E c U f:=⟨h.ok,λk r g=>h.has k r (b k r g)⟩
theorem k6 (h:i∈U.map Prod.fst):(i,A1 U i 0)∈U:=Hh h
theorem Ow.new (h:Ow a E P U f) (j:i∉U.map Prod.fst) (v:k<E.length) (u:i∈(dR a (Cw E k)).map Prod.fst) (l:∀b s,c b s ->P b s\/(b=k/\s=i)):Ow a E c (BA U i k) f:=by
 rw [Dj j];refine ⟨λe g=>?_,λb s o=>?_⟩
 .rcases ν.1 g with g | g
  .exact h.ok e g
  grind
 .rw [<-Dj j,GK];rcases l b s o with t | ⟨rfl,rfl⟩
  .obtain ⟨x,w⟩:=h.has b s t
   grind [Dj]
  grind [Dj]
theorem Ow.join (h:Ow a E P U f) (j:i∈U.map Prod.fst) (l:∀b s,c b s ->P b s\/(b=k/\s=i)):Ow a E c U (D8 f (A1 U i 0) k):=
 ⟨h.ok,λb s o=>(l b s o).elim (λg=>⟨(h.has b s g).1,Gi (h.has b s g).2⟩) λ⟨u,t⟩=>by subst u t;exact ⟨j,Pe⟩⟩
theorem Ow.zero (a:List AM) (E:List (eR×Nat)) (f:Nat ->Nat):Ow a E (λ_ _=>False) [] f:=⟨λe b=>(by cases b),λk r h=>h.elim⟩
def MD (E:List (eR×Nat)) (k:Nat):List (Int×Nat):=(List.range k).map λj=>((Cw E j).id,j)
theorem bD (E:List (eR×Nat)) (k:Nat):MD E (k+1)=MD E k++ [((Cw E k).id,k)]:=by unfold MD;rw [gT,fU];rfl
theorem WS {x:Int}:x∈(MD E k).map Prod.fst↔∃j,j<k/\(Cw E j).id=x:=by grind [MD]
def qf (E:List (eR×Nat)):Prop:=∀i j,i<E.length ->j<E.length ->(Cw E i).id=(Cw E j).id ->i=j
theorem kB (c:qf E) (b:k<E.length):BA (MD E k) (Cw E k).id k=MD E (k+1):=by
 rw [Dj λa=>by
  obtain ⟨j,f,e⟩:=WS.1 a;have:=c j k (by omega) b e
  omega,bD]
theorem WR (a:qf E) {x:Int} (h:x∈(MD E E.length).map Prod.fst):A1 (MD E E.length) x 0<E.length/\(Cw E (A1 (MD E E.length) x 0)).id=x:=by grind [MD,Hh]
theorem bE (b:qf E) (a:j<E.length):(Cw E j).id∈(MD E E.length).map Prod.fst/\A1 (MD E E.length) (Cw E j).id 0=j:=by
 have c:(Cw E j).id∈(MD E E.length).map Prod.fst:=WS.2 ⟨j,a,Z⟩;obtain ⟨g,f⟩:=WR b c;exact ⟨c,b _ _ g a f⟩
end Go.Proofs.YteifpcnphnhaoaaGreat
namespace Go.Proofs.YteifpcnphnhaoaaGreat
open Go.RowKit
variable {a:Nat ->List Nat} {c:List (Nat×Nat)} {f:Nat} {S:TS} {g k h:Nat} {i j:Nat ->Nat} {o:Nat ->Int} {s:Nat} {x:Nat×Nat} {t:Nat}
abbrev rowN (n:Nat) (f:Nat ->Nat):List D:=(List.range n).map λv=>AL (f v)
abbrev HQ (n:Nat) (f:Nat ->Int):List D:=(List.range n).map λv=>AF (f v)
theorem MW {n i:Nat} {f:Nat ->Nat} (h:i<n):(rowN n f)[i]? =some (AL (f i)):=by simp [h]
theorem aa (h:s<f):(HQ f o)[s]? =some (AF (o s)):=by simp [h]
theorem MA {a h:Nat ->D} (c:∀j,j<f ->j≠s ->a j=h j) {x:D} (b:x=h s):((List.range f).map a).set s x=(List.range f).map h:=by
 refine gu (by simp) λj k g=>?_
 grind
theorem DU {x:Nat}:(rowN f i).set s (AL x)=rowN f (An i s x):=by grind [MA,GY,KW]
theorem a9 {x:Int}:(HQ f o).set s (AF x)=HQ f (An o s x):=by grind [MA,GY,KW]
theorem DV (n:Nat) (f:Nat ->Nat):(rowN n f).length=n:=by simp
theorem SH (n:Nat) (f:Nat ->Int):(HQ n f).length=n:=by simp
theorem oL (n:Nat):List.replicate n (D.raw (.int .i64 0))=rowN n (λ_=>0):=by
 refine gu (by simp) λj b a=>?_
 simp
theorem te (n:Nat):List.replicate n (D.raw (.int .i64 0))=HQ n (λ_=>0):=by
 refine gu (by simp) λj b a=>?_
 simp
abbrev Yo (f:Nat×Nat):D:= .agg [AL f.1,AL f.2]
def pend:Option Nat ->List (Nat×Nat)
 | none=> []
 | some v=> [(v,0)]
theorem Kz {l j:List (Nat×Nat)} (h:k=l.length):((l++ [x]++j).map Yo)[k]? =some (Yo x):=by
 subst h;simp
theorem tX {l j:List (Nat×Nat)} {y:Nat×Nat} (h:k=l.length):((l++ [x]++j).map Yo).set k (Yo y)=(l++ [y]++j).map Yo:=by
 subst h;simp
theorem rG (l j:List (Nat×Nat)) {x:Nat×Nat}:((l++j).map Yo).take l.length++ [Yo x].take 1=(l++ [x]).map Yo:=by
 rw [<-List.map_take,List.take_left];simp
theorem oc (a b:Nat):(if (b:Int)<(a:Int) then (b:Int) else (a:Int))=((min a b:Nat):Int):=by
 split<;>omega
def mu (n:Nat) (suc:Nat ->List Nat) (S:TS):Nat:=((List.range n).map λv=>if S.idx v=0 then (suc v).length+1 else 0).sum+(S.cs.map λf=>(suc f.1).length - f.2+1).sum
theorem bq {n:Nat} {a:Nat ->List Nat} {S:TS} {v:Nat} (g:v<n) (j:S.idx v=0) {l:Nat ->Nat} {st:List Nat} {c:Nat}:
  mu n a ⟨An S.idx v (S.clk+1),l,S.of,st,S.cs++ [(v,0)],S.cnt,c⟩=mu n a S:=by
 unfold mu;dsimp only
 have:=WB (n:=n) (i:=v) (f:=λv=>if S.idx v=0 then (a v).length+1 else 0) (h:=λu=>if An S.idx v (S.clk+1) u=0 then (a u).length+1 else 0) (c:=(a v).length+1) g
  (λk _ b=>by rw [GY b]) (by rw [KW,ϱ j,θ (by omega)];omega)
 grind
theorem VH (b:S.cs=c++ [(h,k)]) (g:k<(a h).length):mu f a {S with low:=j,cs:=c++ [(h,k+1)]}<mu f a S:=by grind [mu]
theorem br (b:S.cs=c++ [(h,k)]) {o:Nat ->Int} {i:List Nat} {g:Nat}:mu f a ⟨S.idx,j,o,i,c,g,S.clk⟩<mu f a S:=by grind [mu]
structure TH (n:Nat) (suc:Nat ->List Nat) (r:Nat) (S:TS) (p:Option Nat):Prop where
 ti:TI n suc S p
 k1:∀f∈S.cs,1<=f.2
 old:∀v,v<r ->S.idx v≠0
 rt:S.idx r≠0\/p=some r
structure TB (n:Nat) (suc:Nat ->List Nat) (r:Nat) (S:TS) (cs0:List (Nat×Nat)) (v k:Nat):Prop where
 ti:TI n suc S none
 hcs:S.cs=cs0++ [(v,k)]
 k1:∀f∈cs0,1<=f.2
 old:∀v,v<r ->S.idx v≠0
 rt:S.idx r≠0
theorem j8 {p:Option Nat} (h:TH f a g S p) (c:S.cs++pend p≠ []):∃b v k,S.cs++pend p=b++ [(v,k)]/\v<f/\(k=0 ->S.cs=b/\p=some v)/\(k≠0 ->S.cs=b++ [(v,k)]/\p=none):=by
 cases p with
 | some v=>exact ⟨S.cs,v,0,Z,(h.ti.pnd v Z).1,λ_=>⟨Z,Z⟩,λh=>(h Z).elim⟩
 | none=>
  rw [pend,gN] at c⊢;rcases List.eq_nil_or_concat S.cs with e | ⟨l,⟨v,k⟩,e⟩
  .grind
  .rw [List.concat_eq_append] at e;have i:(v,k)∈S.cs:=by rw [e];exact iN _ (ζ.2 Z)
   have:=h.k1 _ i;have j:=h.ti.lt v ((h.ti.st v).1 (h.ti.csm _ i)).1
   grind
theorem Zj (b:TH f a g S (some h)):
  TB f a g ⟨An S.idx h (S.clk+1),An S.low h (S.clk+1),S.of,S.st++ [h],S.cs++ [(h,0)],S.cnt,S.clk+1⟩ S.cs h 0:=by
 refine ⟨Zg b.ti,Z,b.k1,λw c=>?_,?_⟩
 .show An S.idx h (S.clk+1) w≠0
  by_cases e:w=h
  .subst e;rw [KW];omega
  .rw [GY e];exact b.old w c
 .show An S.idx h (S.clk+1) g≠0
  by_cases e:g=h
  .subst e;rw [KW];omega
  .rw [GY e];exact b.rt.resolve_right λi=>e (Option.some.inj i).symm
theorem nj (b:TH f a g S none) (j:S.cs=c++ [(h,k)]):TB f a g S c h k:=
 ⟨b.ti,j,λi l=>b.k1 i (by rw [j];exact iX _ l),b.old,b.rt.resolve_right λe=>by cases e⟩
theorem U8 (b:TB f a g S c h k):h<f/\h∈S.st/\S.idx h≠0/\k<=(a h).length:=by
 have i:(h,k)∈S.cs:=by rw [b.hcs];exact iN _ (ζ.2 Z)
 have l:=b.ti.csm _ i;have j:=((b.ti.st h).1 l).1;exact ⟨b.ti.lt h j,l,j,(b.ti.gry _ i).1⟩
theorem nk (b:TB f a g S c h k) (z:(a h)[k]? =some t) (o:t<f) (s:S.idx t=0):
  TH f a g {S with cs:=c++ [(h,k+1)]} (some t):=by
 refine ⟨U7 b.ti b.hcs z o (low':=S.low) (λw=>ϖ _) (λw u=>(b.ti.lw w u).2) (.inr Z) (λx e=>⟨(Option.some.inj e).symm,s⟩) (λy=>absurd s ((b.ti.st t).1 y).1),λi l=>?_,b.old,.inl b.rt⟩;rcases ν.1 l with l | l
 .exact b.k1 i l
 grind
theorem nl (b:TB f a g S c h k) (z:(a h)[k]? =some t) (s:t<f) (A:S.idx t≠0) (B:S.of t<0):
  TH f a g {S with low:=An S.low h (min (S.low h) (S.idx t)),cs:=c++ [(h,k+1)]} none:=by
 have o:t∈S.st:=(b.ti.st t).2 ⟨A,B⟩;refine ⟨U7 b.ti b.hcs z s (λw=>?_) (λw u=>?_) (.inl A) (λx e=>by cases e) (λ_=>by rw [KW];omega),λi l=>?_,b.old,.inl b.rt⟩
 .grind [KW,GY]
 .by_cases e:w=h
  .subst e;rw [KW];rcases Nat.lt_or_ge (S.idx t) (S.low w) with C | C
   .exact ⟨t,o,by omega,Rh.one (ϑ z)⟩
   .obtain ⟨y,D,F,E⟩:=(b.ti.lw w u).2
    grind
  .rw [GY e];exact (b.ti.lw w u).2
 .rcases ν.1 l with l | l
  .exact b.k1 i l
  grind
theorem jb (b:TB f a g S c h k) (z:(a h)[k]? =some t) (o:t<f) (A:S.idx t≠0) (u:¬S.of t<0):
  TH f a g {S with cs:=c++ [(h,k+1)]} none:=by
 refine ⟨U7 b.ti b.hcs z o (low':=S.low) (λw=>ϖ _) (λw s=>(b.ti.lw w s).2) (.inl A) (λx e=>by cases e) (λy=>absurd ((b.ti.st t).1 y).2 u),λi l=>?_,b.old,.inl b.rt⟩;rcases ν.1 l with l | l
 .exact b.k1 i l
 grind
theorem sR (a b:Nat):(if (b:Int)>(a:Int) then (b:Int) else (a:Int))=((max a b:Nat):Int):=by split<;>omega
def Yb (f:Nat ->Nat) (a b k:Nat):Nat ->Nat:=λj=>if j<k then D8 f a b j else f j
theorem cV (f:Nat ->Nat) (a b:Nat):Yb f a b 0=f:=by funext j;unfold Yb;rw [θ (by omega)]
theorem oz (f:Nat ->Nat) (a b k:Nat):Yb f a b k k=f k:=θ (by omega)
theorem kg {a b:Nat} (h:i k=max (i a) (i b)):An (Yb i a b k) k (min (i a) (i b))=Yb i a b (k+1):=by grind [KW,Yb,D8,GY]
theorem cW {a b:Nat} (h:¬i k=max (i a) (i b)):Yb i a b (k+1)=Yb i a b k:=by grind [Yb,D8]
theorem PP {n:Nat} {f h:Nat ->Nat} (e:∀j,j<n ->f j=h j):rowN n f=rowN n h:=by simp_all
abbrev HJ (n:Nat) (f:Nat ->Nat):Hp:=[(930,[.blk 28 [.own 931 0 n]]),(931,[.rowD 3 1 (rowN n f)])]
set_option maxRecDepth 100000 in
theorem Wo (n:Nat) (f:Nat ->Nat) (a b:Nat) (s:a<n) (o:b<n) (w:n<=100000):AJ prog 67 [.d (AL a),.d (AL b),.ptr 930 0 0] (HJ n f) λr v=>r= .tup []/\v=HJ n (D8 f a b):=by
 refine As func67 Z Z ntmps67 Z Z Z λF t=>(AC (DB [[],[],[0,1],[0,1,2],[],[],[4,5],[4,5,6],rg 8,[],[],[9,10],[9,10,11],[],[],[13,14],[13,14,15],[9,10,11,12,13,14,15,16],rg 9,rg 19] mixed Z (DP (Az [2] Z Z (λ_=>A5 (A2 Z Z Z BG Z)) (Av 0 Z Z (Az [8,9] Z Z (λ_=>A5 (Ce (a) Z Z (Z) (s) Z E0 BU Z)) (Az [10] Z Z (λ_=>A5 (D1 Z Z (MW s) Z Aw Z)) (Az [2] Z Z (λ_=>A5 (A2 Z Z Z BG Z)) ?_))))))));refine Av 1 Z Z (Az [12,13] Z Z (λ_=>A5 (Ce (b) Z Z (Z) (o) Z E0 BU Z)) (Az [14] Z Z (λ_=>A5 (D1 Z Z (MW o) Z Aw Z)) (AQ [11,15] Z (QQ Z Z (sR _ _) Z) (Az [2] Z Z (λ_=>A5 (A2 Z Z Z BG Z)) (Av 0 Z Z (Az [17,18] Z Z (λ_=>A5 (Ce (a) Z Z (Z) (s) Z E0 BU Z)) (Az [19] Z Z (λ_=>A5 (D1 Z Z (MW s) Z Aw Z)) (Az [2] Z Z (λ_=>A5 (A2 Z Z Z BG Z)) ?_))))))));refine Av 1 Z Z (Az [21,22] Z Z (λ_=>A5 (Ce (b) Z Z (Z) (o) Z E0 BU Z)) (Az [23] Z Z (λ_=>A5 (D1 Z Z (MW o) Z Aw Z)) (AQ [20,24] Z (QP Z Z (oc _ _) Z) (AQ [16] Z (GA Z Z) (Cg 19 Z Z Z (Ag 20 Z Z (AB Z Z (AD ⟨Z,?_⟩))))))));refine Cr (AC (AE (J (A2 Z Z Z BG Z) (J (QD Z E0 Z) (dd Z Z (AD (A0 ?_)))))));have u:rowN n f=rowN n (Yb f a b 0):=(by rw [cV]);unfold HJ;rw [u];refine BX (α:=Nat) (λk=>⟨42,[(2,(.ptr 930 0 0)),(5,(.d (AL (max (f a) (f b))))),(6,(.d (AL (min (f a) (f b))))),(27,(.d (AL n))),(28,(.d (AL k)))],[(930,[.blk 28 [.own 931 0 n]]),(931,[.rowD 3 1 (rowN n (Yb f a b k))])]⟩) (λk=>k<=n) (λk=>n - k) (0) (υ _) (AY t [930,931] Z Z ⟨Z,Z,Z,Z,Z,trivial⟩) ?_;rintro k x;refine AC (AE (J (BN Z Z Z) (AD (AC (Ac Z (λl=>?_) (λl=>?_))))))
 .refine AZ (AC (A0 (AC ?_)));have c:k<n:=Ba l;refine AE ?_;refine dd Z Z (AB Z Z (AD (AC (AE (J (A2 Z Z Z BG Z) (dd Z Z (J (Ce (k) Z Z (Z) (c) Z E0 BU Z) (J (D1 Z Z (MW c) Z Aw Z) ?_))))))));rw [oz];refine dd Z Z (J (Li Z Z Z) (AD (Ac Z (λi=>?_) (λi=>?_))))
  .have g:f k=max (f a) (f b):=Int.ofNat.inj i;refine AE (J (A2 Z Z Z BG Z) (dd Z Z (dd Z Z (J (Ce (k) Z Z (Z) (c) Z E0 BU Z) (V (XW Z Z Z Z Z (by rw [DV];exact c) DU Z BU) ?_)))));rw [kg g];refine AD (AE (J (Ar Z Z (AO (k+1) (by omega)) Z) (dd Z Z (AD ?_))));exact ⟨k+1,c,by omega,AY t [930,931] Z (Z) ⟨Z,Z,Z,Z,Z,trivial⟩⟩
  .have g:¬f k=max (f a) (f b):=λe=>i (by rw [e]);refine AZ (AE (J (Ar Z Z (AO (k+1) (by omega)) Z) (dd Z Z (AD ?_))));exact ⟨k+1,c,by omega,AY t [930,931] Z (by simp only [cW g];rfl) ⟨Z,Z,Z,Z,Z,trivial⟩⟩
 .refine BC ?_;exact ⟨_,[930,931],_,A3 Z,Z,Z,Z,by rw [PP (f:=D8 f a b) (h:=Yb f a b k) λj y=>by unfold Yb;rw [ϱ (by have:=l;omega)]]⟩
end Go.Proofs.YteifpcnphnhaoaaGreat
