import Derived.Test.YteifpcnphnhaoaaGreatMg17
open Go.Proofs.Tryz
set_option maxHeartbeats 2000000
namespace Go.Proofs.YteifpcnphnhaoaaGreat
open Go.RowKit
set_option maxRecDepth 100000
section
variable{P:Program}{F:Fr}{s:AS}{d:Nat}{x y:Operand}{T E:TypeId}{ty:TypeId}{pos:String}{aft:Array Edge}{g:Option (Nat×Bool)}{k:IntKind}{i:Int}
variable{h:Hd}{a:Nat}
theorem YA{h:Hd}{n:Nat}(j:h=none->n=0)(f:s.ev x=some (.d (ji h n)))(o:P.underlying T=some (.slice E))(l:Nat.blt d s.n=true):
  AA P F ⟨some d,.call {callee:= .builtin .len,args:= #[x],argTypes:= #[T]},ty,pos,aft,g⟩ s d (.d (AE (n:Int))):=by
 match h,j,f with
 | none,j,f=>
  have e:=j rfl;subst e;exact Y3 (a:=none) (n:=0) (cap:=0) f o l
 | some (b,c),_,f=>exact Y3 (a:=some ⟨b,0,none⟩) (n:=n) (cap:=c) f o l
theorem YF{b c f:Nat}(t:h=some (b,c))(m:Nat)(l:s.ev x=some (.d (ji h a)))(j:s.ev y=some (.d (.raw (.int k i))))(r:i=(m:Int))(o:m<a)(v:P.underlying T=some (.slice E))(w:A3 P E f=true)(u:Nat.blt d s.n=true):
  AA P F ⟨some d,.indexAddr T x y,ty,pos,aft,g⟩ s d (.d (pD b (m*f))):=by
 subst t;exact aP m l j r o v w u
end
variable{a:List Po}{M:MF}{c:Type}{f:List c}{k:Nat}{t:TypeId}{h:Hd}{g:c->D}{i j:Nat->Nat}{o:Nat}{N:jh}{y:Po}{s u:Nat}
theorem W4(a:BX M h t k (f.map g)):h=none->f.length=0:=λe=>by
 subst e;have:f.map g=[]:=a
 simpa using this
theorem Wg(i:BX M h t k (f.map g)){j:Nat}(o:j<f.length):∃b a,h=some (b,a):=by
 cases h with
 | none=>have:=W4 i rfl;omega
 | some p=>exact ⟨p.1,p.2,Z⟩
theorem Tt{a:List D}(f:BX M h t k a){b c:Nat}(g:h=some (b,c)):M b=some (.row t k c a):=by
 subst g;exact f.2
def Nu(po:List Po)(e:Nat×Int):List Po:=match po[e.1]? with
 | some y=>po.set e.1 {y with sum:=y.sum-e.2}
 | none=>po
def Q9(po:List Po)(e:Nat×Nat):List Po:=match po[e.1]? with
 | some y=>po.set e.1 {y with mi:=min y.mi e.2}
 | none=>po
theorem nl{e:Nat×Int}(h:a[e.1]? =some y):Nu a e=a.set e.1 {y with sum:=y.sum-e.2}:=by unfold Nu;rw[h]
theorem ZF{e:Nat×Nat}{y:Po}(h:a[e.1]? =some y):Q9 a e=a.set e.1 {y with mi:=min y.mi e.2}:=by unfold Q9;rw[h]
def FA(x:Nd):Nd:={x with on:=false}
def vk(N:jh)(i:Nat)(x:Nd):jh:={N with nd:=N.nd.set i (FA x),po:=x.pl.foldl Q9 (x.ef.foldl Nu N.po)}
theorem Mw{g:Type}{a:g->c->g}(h:k<f.length)(b:g):(f.take (k+1)).foldl a b=a ((f.take k).foldl a b) f[k]:=by
 rw[ψ h,List.foldl_append];rfl
def UK(po:List Po)(b:Int):Prop:=∀y∈po,-b<=y.sum/\y.sum<=b
theorem dH{b c:Int}(h:UK a b)(i:b<=c){j:Nat}(g: -c<=y.sum/\y.sum<=c):UK (a.set j y) c:=λz f=>by
 rcases my f with f | rfl
 .have:=h z f;omega
 .exact g
theorem eM(h:Ca s u j i N M){x:Nd}(E:N.nd[o]? =some x)(hB:UK N.po 1000000000000000000)(he:∀e∈x.ef,-100000000000000000<=e.2/\e.2<=100000000000000000)(hel:x.ef.length<=60)(hpl:x.pl.length<=1000)(hpb:∀e∈x.pl,e.2<=1000000)(hmb:∀y∈N.po,y.mi<=1000000):
  AO prog 140 [.d (pD (j o) 0)] (HN M) λr H'=>r= .tup []/\∃M',H'=HN M'/\Ca s u j i (vk N o x) M':=by
 have hxb:=(h.nn o x E).1;have hil:=(φ.1 E).1;have h1:=h.setNd (x':=FA x) E Z Z Z Z;have G:(N.nd.set o (FA x))[o]? =some (FA x):=by rw[List.getElem?_set_self hil]
 have hez:=W4 (h.nn o x E).2.1;have hpz:=W4 (h.nn o x E).2.2;have S:=h.e x (ϖ E);refine As func140 Z Z ntmps140 Z Z Z λF hF=>(AD ?_);refine AF (ch Z Z (J (Dx Z Z) (J (Cr Z F8 Z Z Z) (V (Qk (f:=40) Z Z Z Z (hxb) ((by show _<9;omega)) Z v4) (AC (AD (AD (AF ?_))))))));refine ch Z Z (J (Dx Z Z) (J (Cr Z Lc Z Z Z) (J (FE (f:=40) Z Z ((H3 _ _ _)) Z Yn Z) (J (YA hez Z underlying181 Z) (ch Z Z (AC (AX (BC (α:=Nat×List Po×MF) (λq=>⟨51,[(0,.d (pD (j o) 0)),(12,(.d (ji x.eh x.ef.length))),(13,(.d (AE (x.ef.length:Int)))),(14,(.d (AE (q.1:Int))))],HN q.2.2⟩) (λq=>q.1<=x.ef.length/\q.2.1=(x.ef.take q.1).foldl Nu N.po/\Ca s u j i {N with nd:=N.nd.set o (FA x),po:=q.2.1} q.2.2/\UK q.2.1 (1000000000000000000+100000000000000000*(q.1:Int))/\(∀y∈q.2.1,y.mi<=1000000)/\q.2.1.length=N.po.length) (λq=>x.ef.length-q.1) ((0,N.po,Bh M (j o) (Wc (FA x)))) (⟨κ _,Z,h1,by show UK N.po (1000000000000000000+100000000000000000*((0:Nat):Int));simpa using hB,hmb,Z⟩) (AR hF [40] Z Z ⟨Z,Z,Z,Z,trivial⟩) ?_))))))));rintro ⟨k,po,M1⟩ ⟨hk0,I,O,hS,C,c⟩;dsimp only at hk0 I O hS C c⊢;refine AD (AF (J (At Z Z Z) (AC (AD (A5 Z (λL=>?_) (λL=>?_))))))
 .have l:k<x.ef.length:=BF L;refine AU (AD (AX (AD ?_)));obtain ⟨eb,ec,hee⟩:=Wg (h.nn o x E).2.1 l;have U:=Tt (O.nn o (FA x) G).2.1 hee;have hjl:x.ef[k].1<po.length:=by rw[c];exact S.1 _ (ϑ l)
  obtain ⟨y,R⟩:∃y,po[x.ef[k].1]? =some y:=⟨_,ω hjl⟩
  have Q:=O.p _ y R;have hys:=hS y (ϖ R);have heb:=he _ (ϑ l);refine AF ?_;refine J (YF hee (k) Z Z Z l underlying181 UI Z) (J (E6 (f:=40) (e:=k) Z (Z) Z (U) (AP l) Z dp Z) (V (CP 1 c6 Z Z Z Z) (V (Bi Z Z Z Z Z Z Z UI) (AC (Bq [[],[0],[0,1],[0,1,2],[0,1,2,3],[],[5],rg 7,rg 8,rg 9,rg 10] mixed Z (B2 (AK [3] Z (AM Z TU Z Z Z) (A1 [18] [1] Z Z (λ_=>Aa (AQ Z Z Z FR Z)) ?_))))))));refine AK [19] Z (Dx Z Z) (AK [20] Z (Cr Z La Z Z Z) (A1 [21] [40] Z Z (λ_=>Aa (FE (f:=40) Z Z (Q) Z FJ Z)) (AK [3] Z (AM Z TT Z Z Z) (A1 [23] [1] Z Z (λ_=>Aa (AQ Z Z Z FJ Z)) (BV 7 Z Z Z (A0 8 Z Z (J (ME Z Z (Ξ _ (by omega)) Z) (AC ⟨Z,?_⟩))))))));refine A0 9 Z Z (J (Dx Z Z) (AC ⟨Z,?_⟩));refine A0 10 Z Z (J (Cr Z La Z Z Z) (AC ⟨Z,?_⟩));refine A0 11 Z Z (V (Qk (f:=40) Z Z Z Z (Q) ((by show _<10;omega)) Z xY) (AC ⟨Z,?_⟩));refine Bb (AF (J (Ad Z Z (AJ (k+1) (by omega)) Z) (ch Z Z (AC ?_))));exact ⟨(k+1,po.set x.ef[k].1 {y with sum:=y.sum-x.ef[k].2},Bh M1 (i x.ef[k].1) (Wa {y with sum:=y.sum-x.ef[k].2})),⟨by show k+1<=_;omega,by show po.set _ _=_;rw[Mw l,<-I,nl R],O.setPo R Z Z,by show UK _ (1000000000000000000+100000000000000000*((k+1:Nat):Int));exact dH hS (by omega) (by show _<=y.sum-x.ef[k].2/\y.sum-x.ef[k].2<=_;omega),λz D=>by rcases my D with D | rfl;exact C z D;exact C y (ϖ R),by show (po.set _ _).length=_;rw[kn];exact c⟩,by show x.ef.length-(k+1)<x.ef.length-k;omega,AR hF [40] Z (Z) ⟨Z,Z,Z,Z,trivial⟩⟩
 .refine Aq (AD ?_);have X:po=x.ef.foldl Nu N.po:=by rw[I,θ (by have h:=L;omega)]
  have T:=(O.nn o (FA x) G).1;refine AF ?_;refine ch Z Z (J (Dx Z Z) (J (Cr Z Lb Z Z Z) (J (FE (f:=40) Z Z (T) Z Ym Z) (J (YA hpz Z underlying182 Z) (ch Z Z (AC (AX (BC (α:=Nat×List Po×MF) (λq=>⟨51,[(32,(.d (ji x.ph x.pl.length))),(33,(.d (AE (x.pl.length:Int)))),(34,(.d (AE (q.1:Int))))],HN q.2.2⟩) (λq=>q.1<=x.pl.length/\q.2.1=(x.pl.take q.1).foldl Q9 (x.ef.foldl Nu N.po)/\Ca s u j i {N with nd:=N.nd.set o (FA x),po:=q.2.1} q.2.2/\(∀y∈q.2.1,y.mi<=1000000)/\q.2.1.length=N.po.length) (λq=>x.pl.length-q.1) ((0,po,M1)) (⟨κ _,X,O,C,c⟩) (AR hF [40] Z Z ⟨Z,Z,Z,trivial⟩) ?_))))))));rintro ⟨a,g,M2⟩ ⟨hj0,t,B,v,b⟩;dsimp only at hj0 t B v b⊢;refine AD (AF (J (At Z Z Z) (AC (AD (A5 Z (λK=>?_) (λK=>?_))))))
  .have A:a<x.pl.length:=BF K;refine AU (AD (AX (AD ?_)));obtain ⟨pbk,pcc,Y⟩:=Wg (h.nn o x E).2.2 A;have H:=Tt (B.nn o (FA x) G).2.2 Y;have hjl2:x.pl[a].1<g.length:=by rw[b];exact S.2 _ (ϑ A)
   obtain ⟨z,D⟩:∃z,g[x.pl[a].1]? =some z:=⟨_,ω hjl2⟩
   have P:=B.p _ z D;have hzm:=v z (ϖ D);have hmin:(if ((x.pl[a].2:Nat):Int)<((z.mi:Nat):Int) then ((x.pl[a].2:Nat):Int) else ((z.mi:Nat):Int))=((min z.mi x.pl[a].2:Nat):Int):=by split<;>omega
   refine AF (J (YF Y (a) Z Z Z A underlying182 Qt Z) (J (E6 (f:=40) (e:=a) Z (Z) Z (H) (AP A) Z dl Z) (V (CP 2 YJ Z Z Z Z) ?_)));refine V (Bi Z Z Z Z Z Z Z Qt) (AC (Bq [[],[0],[],[2],[2,3],[2,3,4],[2,3,4,5],[],[7],[2,3,4,5,6,7,8],rg 10,rg 11,rg 12] mixed Z (B2 (AK [5] Z (AM Z IC Z Z Z) (A1 [38] [2] Z Z (λ_=>Aa (AQ Z Z Z FR Z)) (AK [5] Z (AM Z IC Z Z Z) (A1 [40] [2] Z Z (λ_=>Aa (AQ Z Z Z FR Z)) (AK [41] Z (Dx Z Z) ?_))))))));refine AK [42] Z (Cr Z L9 Z Z Z) (A1 [43] [40] Z Z (λ_=>Aa (FE (f:=40) Z Z (P) Z Ai Z)) (AK [5] Z (AM Z TQ Z Z Z) (A1 [45] [2] Z Z (λ_=>Aa (AQ Z Z Z Ai Z)) (AK [44,46] Z (Sc Z Z (hmin) Z) (BV 10 Z Z Z (A0 11 Z Z (J (Dx Z Z) (AC ⟨Z,?_⟩))))))));refine A0 12 Z Z (J (Cr Z L9 Z Z Z) (AC ⟨Z,?_⟩));refine A0 13 Z Z (V (Qk (f:=40) Z Z Z Z (P) ((by show _<10;omega)) Z BK) (AC ⟨Z,?_⟩));refine Bb ?_;skip;refine AF (J (Ad Z Z (AJ (a+1) (by omega)) Z) (ch Z Z (AC ?_)));exact ⟨(a+1,g.set x.pl[a].1 {z with mi:=min z.mi x.pl[a].2},Bh M2 (i x.pl[a].1) (Wa {z with mi:=min z.mi x.pl[a].2})),⟨by show a+1<=_;omega,by show g.set _ _=_;rw[Mw A,<-t,ZF D],B.setPo D Z Z,λw hw=>by rcases my hw with hw | rfl;exact v w hw;show min z.mi _<=_;omega,by show (g.set _ _).length=_;rw[kn];exact b⟩,by show x.pl.length-(a+1)<x.pl.length-a;omega,AR hF [40] Z (Z) ⟨Z,Z,Z,trivial⟩⟩
  .refine Aq ?_;have W:g=x.pl.foldl Q9 (x.ef.foldl Nu N.po):=by rw[t,θ (by have h:=K;omega)]
   exact ⟨_,[40],_,A2 Z,Z,Z,Z,M2,Z,by unfold vk;rw[<-W];exact B⟩
def Bf(N:jh):List Int:=N.nd.map λx=>x.it.id
def Gb(nb:Nat->Nat)(ids:List Int):List (Int×Value):=(List.range ids.length).map λi=>(ids.getD i 0,pV (nb i) 0)
theorem Tj{nb:Nat->Nat}{a:List Int}(c:a.Nodup)(b:o<a.length):Af (Gb nb a) a[o] (.pointer none)=pV (nb o) 0:=by
 refine cR ?_ (Γ.2 ⟨o,Ω.2 b,by rw[Dy 0 b]⟩)
 have:(Gb nb a).map Prod.fst=a:=by
  unfold Gb;rw[jw];refine lg (by simp) λj g f=>?_
  grind
 grind
abbrev HW(mv:Nat)(bs:Option (List Nat×Nat))(L:List (Int×Value))(M:MF):Hp:=[(40,[.multi M]),(50,[.map bs (Bg AE M9 L)]),(51,[.addr 50 0 (.map (some mv))])]
structure I5 where
 id:Int
 re:Int
 r:AW
 by_:Int
def F2:AW:=⟨0,Tn,[],[]⟩
def Ny:I5:=⟨0,0,F2,0⟩
abbrev TZ(e:I5):D:= .agg [AE e.id,AE e.re,AE e.r.k,Ak e.r.acc.o,AE e.r.acc.k,Ak e.r.acc.a,Ak e.r.f,Ak e.r.t,AE e.by_]
abbrev wn(o:Option I5):D:= .tup [TZ (o.getD Ny),Am o.isSome]
def kt(N:jh)(e:Nat×Nat):Bool:=decide ((N.po.getD e.1 Cd).mi<e.2)
def TY(N:jh)(x:Nd)(e:Nat×Nat):I5:=⟨x.it.id,1,(N.po.getD e.1 Cd).r,(N.nd.getD ((N.po.getD e.1 Cd).q.getD (N.po.getD e.1 Cd).mi 0) CV).it.id⟩
def je(N:jh)(id:Int):Bool:=!(N.nd.getD ((Bf N).idxOf id) CV).on
def G5(N:jh)(x:Nd):Option I5:=match x.pl.find? (kt N) with
 | some e=>some (TY N x e)
 | none=>match x.it.af.find? (je N) with
  | some id=>some ⟨x.it.id,2,F2,id⟩
  | none=>none
theorem Jj{b:Type}{p:b->Bool}:∀{l:List b} {k:Nat} (c:k<l.length),(∀x∈l.take k,p x=false)->p l[k]=true->l.find? p=some l[k]
 | a::l,0,_,_,h=>by simp at h;simp[h]
 | a::l,k+1,c,f,h=>by
  have j:p a=false:=f a (by simp);have g:=Jj (l:=l) (k:=k) (by simpa using c) (λx i=>f x (by simp[i])) (by simpa using h);rw[List.find?_cons,j];simpa using g
theorem HU{p:c->Bool}{l:List c}(h:∀x∈l,p x=false):l.find? p=none:=by grind
structure lR (N:jh):Prop where
 i:(Bf N).Nodup
 a:∀x∈N.nd,∀id∈x.it.af,id∈Bf N
 l:∀x∈N.nd,x.ef.length<=60/\x.pl.length<=1000/\x.it.af.length<=1000
 e:∀x∈N.nd,∀e∈x.ef,-100000000000000000<=e.2/\e.2<=100000000000000000
 p:∀x∈N.nd,∀e∈x.pl,e.2<(N.po.getD e.1 Cd).q.length/\e.2<=1000000
 m:∀y∈N.po,y.mi<=1000000
 rm:∀y∈N.po,-1000000000000000000<=y.room/\y.room<=1000000000000000000
 n:N.nd.length<=1000/\N.po.length<=1000
 ql:∀y∈N.po,y.q.length<=1000
theorem pB{wb K:Nat}{nb pb:Nat->Nat}{N:jh}{M:MF}(bs:Option (List Nat×Nat))(h:Ca wb K nb pb N M)(hw:lR N){i:Nat}{x:Nd}(hx:N.nd[i]? =some x):
  AO prog 193 [.d (pD wb 0),.d (pD (nb i) 0)] (HW K bs (Gb nb (Bf N)) M) λr H'=>r= .d (wn (G5 N x))/\H'=HW K bs (Gb nb (Bf N)) M:=by
 have hwb:=h.w;have o:=ϖ hx;obtain ⟨s,hre,C⟩:=h.nn i x hx;have hpz:=W4 C;obtain ⟨_,hpl,hafl⟩:=hw.l x o;have hxe:=h.e x o;have hxp:=hw.p x o;have hxa:=hw.a x o;refine As func193 Z Z ntmps193 Z Z Z λF hF=>(AD (AF (V (CP 1 KD Z Z Z Z) (AB Z Z (AC (AD (AD (AF ?_))))))));refine ch Z Z (J (Dx Z Z) (J (Cr Z Lb Z Z Z) (J (FE (f:=40) Z Z (s) Z Ym Z) (J (YA hpz Z underlying182 Z) (ch Z Z (AC (AX (BC (α:=Nat) (λk=>⟨85,[(0,.d (pD wb 0)),(1,.d (pD (nb i) 0)),(4,(.ptr 1 0 0)),(13,(.d (ji x.ph x.pl.length))),(14,(.d (AE (x.pl.length:Int)))),(15,(.d (AE (k:Int))))],(1,[.blk 245 [.d (AE 0),.d (AE 0),.d (AE 0),.d (Ak []),.d (AE 0),.d (Ak []),.d (Ak []),.d (Ak []),.d (AE 0)]])::HW K bs (Gb nb (Bf N)) M⟩) (λk=>k<=x.pl.length/\∀e∈x.pl.take k,kt N e=false) (λk=>x.pl.length-k) (0) (⟨κ _,by simp⟩) (AR hF [1,40,50,51] Z Z ⟨Z,Z,Z,Z,Z,Z,trivial⟩) ?_))))))));rintro k ⟨hk0,t⟩;refine AD (AF (J (At Z Z Z) (AC (AD (A5 Z (λI=>?_) (λI=>?_))))))
 .have a:k<x.pl.length:=BF I;refine AU (AD (AX (AD ?_)));obtain ⟨eb,ec,W⟩:=Wg C a;have P:=Tt C W;have hjl:x.pl[k].1<N.po.length:=hxe.2 _ (ϑ a)
  obtain ⟨y,hy⟩:∃y,N.po[x.pl[k].1]? =some y:=⟨_,ω hjl⟩
  have w:N.po.getD x.pl[k].1 Cd=y:=by rw[Ψ,hy];rfl
  obtain ⟨l,O⟩:=h.pp _ y hy;have hpk:=hxp _ (ϑ a);rw[w] at hpk;refine AF (J (YF W (k) Z Z Z a underlying182 Qt Z) ?_);refine J (E6 (f:=40) (e:=k) Z (Z) Z (P) (AP a) Z dl Z) (V (CP 2 YJ Z Z Z Z) (V (Bi Z Z Z Z Z Z Z Qt) (AC (AD (Bq [[],[0],[0,1],[0,1,2],[0,1,2,3],[],[5],rg 7] mixed Z (B2 (AK [7] Z (AM Z IC Z Z Z) (A1 [19] [2] Z Z (λ_=>Aa (AQ Z Z Z FR Z)) ?_))))))));refine AK [20] Z (Dx Z Z) (AK [21] Z (Cr Z L9 Z Z Z) (A1 [22] [40] Z Z (λ_=>Aa (FE (f:=40) Z Z (l) Z Ai Z)) (AK [7] Z (AM Z TQ Z Z Z) (A1 [24] [2] Z Z (λ_=>Aa (AQ Z Z Z Ai Z)) (BV 7 Z Z Z (A0 8 Z Z (J (At Z Z Z) (AC ⟨Z,?_⟩))))))));refine Bb (A5 Z (λA=>?_) (λA=>?_))
  .refine AD ?_;have b:y.mi<y.q.length:=by have h:=A;omega
   obtain ⟨qb,qc,Q⟩:=Wg O b;have E:=Tt O Q;have hni:y.q[y.mi]<N.nd.length:=h.q y (ϖ hy) _ (ϑ b)
   obtain ⟨z,L⟩:∃z,N.nd[y.q[y.mi]]? =some z:=⟨_,ω hni⟩
   obtain ⟨B,_,_⟩:=h.nn _ z L;have Y:G5 N x=some ⟨x.it.id,1,y.r,z.it.id⟩:=by unfold G5;rw[Jj a t (by unfold kt;rw[w];exact Υ (by have h:=A;omega))];unfold TY;dsimp only;rw[w,Dy 0 b,Ψ,L];rfl
   refine Bq [[],[0],[0,1],[0,1,2],[0,1,2,3],[],[5],[5,6],[5,6,7],[5,6,7,8],[],[10],[10,11],[10,11,12],[10,11,12,13],[],[15],[15,16],[15,16,17],[15,16,17,18],[10,11,12,13,14,15,16,17,18,19],[10,11,12,13,14,15,16,17,18,19,20],[10,11,12,13,14,15,16,17,18,19,20,21],[10,11,12,13,14,15,16,17,18,19,20,21,22],[10,11,12,13,14,15,16,17,18,19,20,21,22,23],[10,11,12,13,14,15,16,17,18,19,20,21,22,23,24],rg 26,rg 27,rg 28] mixed Z (B2 (A7 1 Z Z (AK [27] Z (Dx Z Z) (AK [28] Z (Cr Z G7 Z Z Z) ?_))));refine AK [29] Z (Cr Z QW Z Z Z) (A1 [30] [40] Z Z (λ_=>Aa (FE (f:=40) Z Z (s) Z Ai Z)) (AK [7] Z (AM Z IC Z Z Z) (A1 [32] [2] Z Z (λ_=>Aa (AQ Z Z Z FR Z)) (AK [33] Z (Dx Z Z) (AK [34] Z (Cr Z OY Z Z Z) (A1 [35] [40] Z Z (λ_=>Aa (De (f:=40) Z Z (l) Cw Z Z (by simp[D.one]) Z)) (AK [7] Z (AM Z IC Z Z Z) (A1 [37] [2] Z Z (λ_=>Aa (AQ Z Z Z FR Z)) ?_))))))));refine AK [38] Z (Dx Z Z) (AK [39] Z (Cr Z ID Z Z Z) (A1 [40] [40] Z Z (λ_=>Aa (FE (f:=40) Z Z (l) Z HQ Z)) (AK [7] Z (AM Z IC Z Z Z) (A1 [42] [2] Z Z (λ_=>Aa (AQ Z Z Z FR Z)) (AK [43] Z (Dx Z Z) (AK [44] Z (Cr Z L9 Z Z Z) (A1 [45] [40] Z Z (λ_=>Aa (FE (f:=40) Z Z (l) Z Ai Z)) (AK [41,46] Z (YF Q (y.mi) Z Z Z b S1 NU Z) ?_))))))));refine A1 [47] [40] Z Z (λ_=>Aa (qj (f:=40) (e:=y.mi) (off:=0) Z (by omega) Z (E) (AP b) Z PS Z)) (AK [48] Z (Dx Z Z) (AK [49] Z (Cr Z G7 Z Z Z) (AK [50] Z (Cr Z QW Z Z Z) (A1 [51] [40] Z Z (λ_=>Aa (FE (f:=40) Z Z (B) Z Ai Z)) (BV 26 Z Z Z (A0 27 Z Z (J (Dz KD Ug Z Z Z) (AC ⟨Z,?_⟩))))))));refine A0 28 Z Z (V (Bi Z Z Z Z Z Z Z Kr) (AC ⟨Z,?_⟩));refine A0 29 Z Z (AB Z Z (AC ⟨Z,?_⟩));refine Bb (A4 ?_);exact ⟨_,[40,50,51],_,A2 Z,Z,Z,by rw[Y];rfl,Z⟩
  .refine AU (AF (J (Ad Z Z (AJ (k+1) (by omega)) Z) (ch Z Z (AC ?_))));exact ⟨k+1,⟨by show k+1<=_;omega,by rw[ψ a];intro e g;rcases υ.1 g with g | g;exact t e g;rw[ξ.1 g];unfold kt;rw[w];exact kC (by have h:=A;omega)⟩,by show x.pl.length-(k+1)<x.pl.length-k;omega,AR hF [1,40,50,51] Z (Z) ⟨Z,Z,Z,Z,Z,Z,trivial⟩⟩
 .refine Aq (AD (AD ?_));have R:x.pl.find? (kt N)=none:=HU (by have e:k=x.pl.length:=(by have h:=I;omega);rw[e,kV] at t;exact t);refine AF (ch Z Z ?_);refine J (Dx Z Z) (J (Cr Z G7 Z Z Z) (J (Cr Z GN Z Z Z) (J (FE (f:=40) Z Z (s) Z BL Z) (J (BU Z E0 Z) (ch Z Z (AC (AX (BC (α:=Nat) (λj=>⟨85,[(0,.d (pD wb 0)),(1,.d (pD (nb i) 0)),(4,(.ptr 1 0 0)),(59,(.d (.sl none (x.it.af.map AE)))),(60,(.d (AE (x.it.af.length:Int)))),(61,(.d (AE (j:Int))))],(1,[.blk 245 [.d (AE 0),.d (AE 0),.d (AE 0),.d (Ak []),.d (AE 0),.d (Ak []),.d (Ak []),.d (Ak []),.d (AE 0)]])::HW K bs (Gb nb (Bf N)) M⟩) (λj=>j<=x.it.af.length/\∀id∈x.it.af.take j,je N id=false) (λj=>x.it.af.length-j) (0) (⟨κ _,by simp⟩) (AR hF [1,40,50,51] Z Z ⟨Z,Z,Z,Z,Z,Z,trivial⟩) ?_))))))));rintro j ⟨hj0,u⟩;refine AD (AF (J (At Z Z Z) (AC (AD (A5 Z (λH=>?_) (λH=>?_))))))
  .have v:j<x.it.af.length:=BF H;refine AU (AD (AX (AD ?_)));have T:=hxa _ (ϑ v);have c:=mr T;have S:(Bf N).idxOf x.it.af[j]<N.nd.length:=by unfold Bf at c⊢;rw[χ] at c;exact c
   obtain ⟨z,L⟩:∃z,N.nd[(Bf N).idxOf x.it.af[j]]? =some z:=⟨_,ω S⟩
   have U:N.nd.getD ((Bf N).idxOf x.it.af[j]) CV=z:=by rw[Ψ,L];rfl
   obtain ⟨B,_,_⟩:=h.nn _ z L;have X:=Tj (nb:=nb) hw.i c;rw[nI c] at X;refine AF (J (Al (j) Z Z (Z) (AP v) E0 Z BK Z) ?_);refine J (BZ Z Z Ai Z) (AB Z Z (AC (AD (AF (ch Z Z (J (Dx Z Z) (J (Cr Z OZ Z Z Z) (J (FE (f:=40) Z Z (hwb) Z Yo Z) ?_))))))));refine EN 68 51 0 Z Z (ch Z Z (J (I8 (Gb nb (Bf N)) x.it.af[j] (.pointer none) (pV (nb ((Bf N).idxOf x.it.af[j])) 0) Z Z Z ZC I6 YK X Z) (J (Dx Z Z) (J (Cr Z F8 Z Z Z) (J (FE (f:=40) Z Z (B) Z tH Z) (J (QX Z Z) (AC (KB Z (λG=>?_) (λG=>?_)))))))))
   .refine AD (AF (ch Z Z (J (Dx Z Z) (J (Cr Z G7 Z Z Z) ?_))));refine J (Cr Z QW Z Z Z) (J (FE (f:=40) Z Z (s) Z Ai Z) (J (Dz MK Uf Z Z Z) (ch Z Z (J (Dz KD Ug Z Z Z) (V (Bi Z Z Z Z Z Z Z Kr) (AB Z Z (AC (A4 ?_))))))));exact ⟨_,[40,50,51],_,A2 Z,Z,Z,by unfold G5;rw[R];dsimp only;rw[Jj v u (by unfold je;rw[U];simpa using G)];rfl,Z⟩
   .refine AU (AF (J (Ad Z Z (AJ (j+1) (by omega)) Z) (ch Z Z (AC ?_))));exact ⟨j+1,⟨by show j+1<=_;omega,by rw[ψ v];intro e g;rcases υ.1 g with g | g;exact u e g;rw[ξ.1 g];unfold je;rw[U];simpa using G⟩,by show x.it.af.length-(j+1)<x.it.af.length-j;omega,AR hF [1,40,50,51] Z (Z) ⟨Z,Z,Z,Z,Z,Z,trivial⟩⟩
  .refine Aq (AD (AF (J (Dz KD Ug Z Z Z) (V (Bi Z Z Z Z Z Z Z Kr) (AB Z Z (AC (A4 ?_)))))));exact ⟨_,[40,50,51],_,A2 Z,Z,Z,by unfold G5;rw[R];dsimp only;rw[HU (by have e:j=x.it.af.length:=(by have h:=H;omega);rw[e,kV] at u;exact u)];rfl,Z⟩
abbrev iC:FuncId:=230
theorem qW(h:Hd)(n:Nat):AO prog 194 [.d (ji h n)] [] λr f=>r= .fn iC [.d (.ptr (ji h n))]/\f=[]:=by
 refine As func194 Z Z ntmps194 Z Z Z λF b=>(AD (AF (V (B7 1 Z Z Z Z Z Z Z) ?_)));refine AB Z Z (AC (AD (AF (Rb 1 1 (ji h n) [] b Z Z Z (by intro c a;simp[D.cells] at a;subst a;rfl) Z Z Z (J (uk Z Z) (AB Z Z (AC (A4 ?_))))))));exact ⟨_,[],[],A2 Z,Z,Z,Z,Z⟩
def MZ(q:List Nat):Nat->List (Nat×Nat)
 | 0=> []
 | c+1=>(c,q.getD c 0)::MZ q c
def iM(nb:Nat->Nat)(e:Nat×Nat):List AV:=[.d (AE (e.1:Int)),.d (B4 (nb e.2))]
section
variable{β:Type}
theorem qX(y:Nat->Nat)(q:List Nat)(T:q.length<=100000){M:MF}{h:Hd}(j:BX M h 176 1 (q.map λi=>B4 (y i)))(l:Nat)(H:β->Hp)(N:List Nat)(step:β->Nat×Nat->β×Bool)(g:β)(K:∀a,lV (H a)=N)(Q:∀a,GK N (H a)=true)(I:∀a,Be (H a) N=some (H a))(P:∀a,dr (H a) 40=some [.multi M])(A:Nt prog l (iM y) H step g (MZ q q.length)):
  AO prog iC [.d (.raw (D4 l)),.d (.ptr (ji h q.length))] (H g) λr G=>r= .tup []/\G=H (I0 step g (MZ q q.length)):=by
 have O:=W4 j;have x:∀a,A6 N (H a)=true:=λa=>by have h:=FB (H a);rw[K] at h;exact h
 have L:∀a,Cj N (H a)=some []:=λa=>by have h:=RP (H a);rw[K] at h;exact h
 refine As func230 Z Z ntmps230 Z Z Z λF U=>?_;refine AD (AF (J (BZ Z Z HQ Z) (J (YA O Z S1 Z) (J (ME Z Z (Ξ _ (by omega)) Z) (AB Z Z (AC (AX (FQ (α:=Nat×β) (λp=>⟨19,[(0,.d (.raw (D4 l))),(1,.d (.ptr (ji h q.length))),(3,(.d (AE ((p.1:Int)-1))))],H p.2⟩) (λp=>p.1<=q.length/\Nt prog l (iM y) H step p.2 (MZ q p.1)/\I0 step p.2 (MZ q p.1)=I0 step g (MZ q q.length)) (λp=>p.1) ((q.length,g)) (⟨Θ _,A,Z⟩) (Zn ⟨Z,Z,Z,trivial⟩) ?_))))))));rintro ⟨c,a⟩ ⟨B,u,b⟩;dsimp only at B u b⊢;refine AD (AD (AF (ch Z Z (J (EE Z Z Z) (AC (A5 Z (λC=>?_) (λC=>?_)))))))
 .obtain ⟨k,rfl⟩:∃k,c=k+1:=⟨c-1,by have h:=C;omega⟩
  refine AU (AD (AX (AD ?_)));have o:k<q.length:=by omega
  obtain ⟨S,R,w⟩:=Wg j o;have t:=Tt j w;have z:((k+1:Nat):Int)-1=(k:Int):=by omega
  rw[z];refine AF (ch Z Z (ch Z Z (J (BZ Z Z HQ Z) (ch Z Z (J (YF w (k) Z Z Z o S1 NU Z) (J (qj (f:=40) (e:=k) (off:=0) Z (by omega) (P a) t (AP o) Z PS Z) ?_))))));rw[<-Dy 0 o];refine Uu Z Z u.1 N (Fk λ_ _=>rfl) (x a) (L a) Z Z (λr G ⟨E,D⟩=>by subst E D;exact ⟨x _,Q _,Z⟩) Z λr G ⟨E,D⟩=>?_;subst E D;rw[kY];refine J (QX Z Z) (AC (KB Z (λv=>?_) (λv=>?_)))
  .have s:(step a (k,q.getD k 0)).2=false:=by simpa using v
   refine A4 ?_;exact ⟨_,N,_,A2 Z,I _,x _,Z,by rw[<-b];show H _=H (I0 step a ((k,q.getD k 0)::MZ q k));rw[Ei,ν (by rw[s];decide)]⟩
  .have s:(step a (k,q.getD k 0)).2=true:=by simpa using v
   refine AU (AF (ch Z Z (J (ME Z Z (Ξ _ (by omega)) Z) (AB Z Z (AC ?_)))));exact ⟨(k,(step a (k,q.getD k 0)).1),⟨by show k<=_;omega,u.2 s,by show I0 step (step a (k,q.getD k 0)).1 (MZ q k)=_;rw[<-b];show _=I0 step a ((k,q.getD k 0)::MZ q k);rw[Ei,ϱ s]⟩,by show k<k+1;omega,⟨Z,Z,λ_ _=>S3.get (l:=[(0,_),(1,_),(3,_)]) ⟨Z,Z,Z,trivial⟩⟩⟩
 .refine Aq ?_;exact ⟨_,N,_,A2 Z,I _,x _,Z,by rw[<-b];have e:c=0:=(by have h:=C;omega);rw[e];rfl⟩
end
variable{M:MF}
def kS(N:jh)(i:Nat):Bool:=(N.nd.getD i CV).on
def Rg(N:jh)(x:Nd):Option I5:=if x.on=true then G5 N x else none
def W9(N:jh)(y:Po):Option I5:=if Q4 y y.sum=true then (y.q.reverse.find? (kS N)).map λi=>⟨(N.nd.getD i CV).it.id,0,y.r,-1⟩ else none
def Dj(N:jh):Option I5:=match N.nd.findSome? (Rg N) with
 | some e=>some e
 | none=>N.po.findSome? (W9 N)
theorem Do{g c:Type}{f:g->Option c}:∀{l:List g} {k:Nat} (i:k<l.length) {b:c},(∀x∈l.take k,f x=none)->f l[k]=some b->l.findSome? f=some b
 | a::l,0,_,b,_,h=>by simp at h;rw[qz,h]
 | a::l,k+1,i,b,j,h=>by
  have s:f a=none:=j a (by simp);have o:=Do (l:=l) (k:=k) (by simpa using i) (λx r=>j x (by simp[r])) (by simpa using h);rw[qz,s];exact o
theorem Dn{a b:Type}{f:a->Option b}{l:List a}(h:∀x∈l,f x=none):l.findSome? f=none:=List.findSome?_eq_none_iff.2 h
def sj:Bool->LoopState
 | true=> .done
 | false=> .ready
def wI:Bool->Option Code
 | true=>some .ret
 | false=>none
def If(N:jh)(_st:Option Nat)(e:Nat×Nat):Option Nat×Bool:=if kS N e.2=true then (some e.2,false) else (none,true)
theorem hZ(N:jh)(q:List Nat):∀n,n<=q.length->I0 (If N) none (MZ q n)=((q.take n).reverse.find? (kS N))
 | 0,_=>rfl
 | n+1,h=>by
  have a:n<q.length:=by omega
  show I0 (If N) none ((n,q.getD n 0)::MZ q n)=_;rw[Ei,ψ a,List.reverse_append,List.reverse_singleton,List.singleton_append,List.find?_cons,Dy 0 a];unfold If;dsimp only
  cases ho:kS N q[n] with
  | true=>rfl
  | false=>exact hZ N q n (by omega)
theorem ZY{P:Program}{l:Nat}{c:Nat->Nat}{H:Option Nat->Hp}(N:jh)(q:List Nat)(g:∀k (s:k<q.length),Gu P l (iM c (k,q[k])) (H none) λv i=>v= .d (.raw (.bool (!kS N q[k])))/\i=H (if kS N q[k]=true then some q[k] else none)):∀n,n<=q.length->Nt P l (iM c) H (If N) none (MZ q n)
 | 0,_=>trivial
 | n+1,h=>by
  have f:n<q.length:=by omega
  have j:=g n f;show Nt P l (iM c) H (If N) none ((n,q.getD n 0)::MZ q n);rw[Dy 0 f];refine ⟨j.mono λv i ⟨r,o⟩=>⟨by rw[r];unfold If;cases kS N q[n]<;>rfl,by rw[o];unfold If;cases kS N q[n]<;>rfl⟩,λa=>?_⟩
  have b:kS N q[n]=false:=by
   cases ho:kS N q[n] with
   | false=>rfl
   | true=>unfold If at a;dsimp only at a;rw[ho] at a;cases a
  have:(If N none (n,q[n])).1=none:=by unfold If;dsimp only;rw[b];rfl
  rw[this];exact ZY N q g n (by omega)
abbrev uN(e:I5):AL:= .blk 245 [.d (AE e.id),.d (AE e.re),.d (AE e.r.k),.d (Ak e.r.acc.o),.d (AE e.r.acc.k),.d (Ak e.r.acc.a),.d (Ak e.r.f),.d (Ak e.r.t),.d (AE e.by_)]
def wl(N:jh)(y:Po)(o:Option Nat):I5:=match o with
 | none=>Ny
 | some i=>⟨(N.nd.getD i CV).it.id,0,y.r,-1⟩
abbrev xK(N:jh)(y:Po)(pbk mv:Nat)(bs:Option (List Nat×Nat))(L:List (Int×Value))(M:MF)(o:Option Nat):Hp:=[(1,[uN (wl N y o)]),(2,[.blk 4 [.d (Am o.isSome)]]),(4,[.blk 186 [.d (B4 pbk)]]),(40,[.multi M]),(50,[.map bs (Bg AE M9 L)]),(51,[.addr 50 0 (.map (some mv))])]
theorem tR{wb H:Nat}{nb pb:Nat->Nat}{N:jh}(O:Option (List Nat×Nat))(h:Ca wb H nb pb N M)(hw:lR N)(hs:UK N.po 1000000000000000000):
  AO prog 139 [.d (pD wb 0)] (HW H O (Gb nb (Bf N)) M) λr H'=>r= .d (wn (Dj N))/\H'=HW H O (Gb nb (Bf N)) M:=by
 have hwb:=h.w;have T:BX M N.nh 176 1 ((List.range N.nd.length).map λi=>B4 (nb i)):=h.rs.1 .n;have S:BX M N.mh 186 1 ((List.range N.po.length).map λj=>B4 (pb j)):=h.rs.1 .m;have hnz:=W4 T;have hpz:=W4 S;rw[kp] at hnz hpz;have hnl:=hw.n
 obtain ⟨L,hL⟩:∃L,Gb nb (Bf N)=L:=⟨_,Z⟩
 have I:=λi x G=>pB (i:=i) (x:=x) O h hw G;rw[hL] at I⊢;refine QO func139 Z Z ntmps139 Z Z Z λF K hFl=>(AD (AF (V (CP 1 KD Z Z Z Z) (V (CP 2 yX Z Z Z Z) (AC (AD (AD (AF ?_))))))));refine ch Z Z (J (Dx Z Z) (J (Cr Z Jl Z Z Z) (J (FE (f:=40) Z Z (hwb) Z HQ Z) (J (YA hnz Z S1 Z) (ch Z Z (AC (AX (BC (α:=Nat) (λk=>⟨74,[(0,.d (pD wb 0)),(2,(.ptr 1 0 0)),(3,(.ptr 2 0 0)),(15,(.d (ji N.nh N.nd.length))),(16,(.d (AE (N.nd.length:Int)))),(17,(.d (AE (k:Int))))],(1,[uN Ny])::(2,[.blk 4 [.d (Am false)]])::HW H O L M⟩) (λk=>k<=N.nd.length/\∀x∈N.nd.take k,Rg N x=none) (λk=>N.nd.length-k) (0) (⟨κ _,by simp⟩) (AR K [1,2,40,50,51] Z Z ⟨Z,Z,Z,Z,Z,Z,trivial⟩) ?_))))))));rintro k ⟨hk0,w⟩;refine AD (AF (J (At Z Z Z) (AC (AD (A5 Z (λY=>?_) (λY=>?_))))))
 .have g:k<N.nd.length:=BF Y;refine AU (AD (AX (AD ?_)))
  obtain ⟨x,G⟩:∃x,N.nd[k]? =some x:=⟨_,ω g⟩
  have R:N.nd[k]=x:=by rw[ω g] at G;injection G
  obtain ⟨E,_,_⟩:=h.nn k x G;obtain ⟨rb,rc,u⟩:=Wg T (j:=k) (by rw[kp];exact g);have t:=Tt T u;refine AF (J (YF u (k) Z Z Z g S1 NU Z) (J (qj (f:=40) (e:=k) (off:=0) Z (by omega) Z (t) ((by rw[ς,mX g];rfl)) Z PS Z) ?_));refine AB Z Z (AC (AD ?_));refine AD (AF (ch Z Z (J (Dx Z Z) (J (Cr Z F8 Z Z Z) (J (FE (f:=40) Z Z (E) Z tH Z) (J (QX Z Z) (AC (KB Z (λX=>?_) (λX=>?_)))))))))
  .have c:Rg N x=none:=by unfold Rg;rw[ν (by simpa using X)]
   refine Aq ?_
   try have c:Rg N x=none:=by unfold Rg;split<;>first | exact hin | rfl
   refine AF (J (Ad Z Z (AJ (k+1) (by omega)) Z) (ch Z Z (AC ?_)));exact ⟨k+1,⟨by show k+1<=_;omega,by rw[ψ g];intro e a;rcases υ.1 a with a | a;exact w e a;rw[ξ.1 a,R];exact c⟩,by show N.nd.length-(k+1)<N.nd.length-k;omega,AR K [1,2,40,50,51] Z (Z) ⟨Z,Z,Z,Z,Z,Z,trivial⟩⟩
  .refine AU (AD (AF (ch Z Z (ch Z Z (V (FX (I k x G) Z [40,50,51] ⟨Z,Z,Z,trivial⟩ Z Z Z Z Z Z Z Z Z) ?_)))));refine ch Z Z (J (Cc Z Z Z) (J (Cc Z Z Z) (V (CP 3 KD Z Z Z Z) (V (Bi Z Z Z Z Z Z Z Kr) (AB Z Z (AC (AD (AF ?_))))))))
   cases hin:G5 N x
   .refine ch Z Z (AC (Cq Z (Z) (AU ?_)))
    try have c:Rg N x=none:=by unfold Rg;split<;>first | exact hin | rfl
    refine AF (J (Ad Z Z (AJ (k+1) (by omega)) Z) (ch Z Z (AC ?_)));exact ⟨k+1,⟨by show k+1<=_;omega,by rw[ψ g];intro e a;rcases υ.1 a with a | a;exact w e a;rw[ξ.1 a,R];exact c⟩,by show N.nd.length-(k+1)<N.nd.length-k;omega,AR K [1,2,40,50,51] Z (Z) ⟨Z,Z,Z,Z,Z,Z,trivial⟩⟩
   .refine ch Z Z ?_;refine AC (CM Z (Z) (AD (AF (J (Ap Z Z rW Z Z Z) (V (Bi Z Z Z Z Z Z Z Kr) (V (Bi Z Z Z Z Z Z Z v4) (AC (A4 ?_))))))));exact ⟨_,[40,50,51],_,A2 Z,Z,Z,by unfold Dj;rw[Do g w (by rw[R];unfold Rg;rw[ϱ (by simpa using X)];exact hin)];rfl,Z⟩
 .refine Aq (AD (AD ?_));have hnn:N.nd.findSome? (Rg N)=none:=Dn (by have e:k=N.nd.length:=(by have h:=Y;omega);rw[e,kV] at w;exact w);refine AF ?_;refine ch Z Z (J (Dx Z Z) (J (Cr Z Ld Z Z Z) (J (FE (f:=40) Z Z (hwb) Z Yp Z) (J (YA hpz Z underlying177 Z) (ch Z Z (AC (AX (BC (α:=Nat) (λj=>⟨74,[(2,(.ptr 1 0 0)),(3,(.ptr 2 0 0)),(38,(.d (ji N.mh N.po.length))),(39,(.d (AE (N.po.length:Int)))),(40,(.d (AE (j:Int))))],(1,[uN Ny])::(2,[.blk 4 [.d (Am false)]])::HW H O L M⟩) (λj=>j<=N.po.length/\∀y∈N.po.take j,W9 N y=none) (λj=>N.po.length-j) (0) (⟨κ _,by simp⟩) (AR K [1,2,40,50,51] Z Z ⟨Z,Z,Z,Z,Z,trivial⟩) ?_))))))));rintro j ⟨hj0,z⟩;refine AD (AF (J (At Z Z Z) (AC (AD (A5 Z (λW=>?_) (λW=>?_))))))
  .have s:j<N.po.length:=BF W;refine AU (AD (AX (AD ?_)))
   obtain ⟨y,hy⟩:∃y,N.po[j]? =some y:=⟨_,ω s⟩
   have P:N.po[j]=y:=by rw[ω s] at hy;injection hy
   have C:=ϖ hy;obtain ⟨Q,hyq⟩:=h.pp j y hy;obtain ⟨rb,rc,u⟩:=Wg S (j:=j) (by rw[kp];exact s);have t:=Tt S u;have hys:=hs y C;have hov:=N7 h hy y.sum (hw.rm y C) (by omega);have hql:=hw.ql y C;refine AF (J (YF u (j) Z Z Z s underlying177 dC Z) (J (qj (f:=40) (e:=j) (off:=0) Z (by omega) Z (t) ((by rw[ς,mX s];rfl)) Z FR Z) ?_));refine V (CP 4 vN Z Z Z Z) (V (Bi Z Z Z Z Z Z Z dC) (AC (AD (AD (Bq [[],[],[1],[1,2],[1,2,3],rg 5,rg 6] mixed Z (B2 ?_))))));refine A1 [9] [4] Z Z (λ_=>Aa (AQ Z Z Z FR Z)) (A1 [9] [4] Z Z (λ_=>Aa (AQ Z Z Z FR Z)) (AK [45] Z (Dx Z Z) (AK [46] Z (Cr Z La Z Z Z) (A1 [47] [40] Z Z (λ_=>Aa (FE (f:=40) Z Z (Q) Z FJ Z)) (BV 5 Z Z Z (A0 6 Z Z (V (FX hov Z [40] ⟨Z,trivial⟩ Z Z Z Z Z Z Z Z Z) (AC ⟨Z,?_⟩))))))));refine A0 7 Z Z ?_
   cases hovy:Q4 y y.sum
   .refine J (QX Z Z) (AC ⟨Z,?_⟩);refine Bb (CM Z (Z) (Aq ?_));have b:W9 N y=none:=by unfold W9;first | (rw[ν (by rw[hovy];decide)]) | (rw[ϱ hovy,<-ho];rfl)
    refine AF (J (Ad Z Z (AJ (j+1) (by omega)) Z) (ch Z Z (AC ?_)));exact ⟨j+1,⟨by show j+1<=_;omega,by rw[ψ s];intro e a;rcases υ.1 a with a | a;exact z e a;rw[ξ.1 a,P];exact b⟩,by show N.po.length-(j+1)<N.po.length-j;omega,AR K [1,2,40,50,51] Z (Z) ⟨Z,Z,Z,Z,Z,trivial⟩⟩
   .refine J (QX Z Z) (AC ⟨Z,?_⟩);refine Bb (Cq Z (Z) (AU ?_));refine AD (AF (J (AQ Z Z Z FR Z) (J (Dx Z Z) (J (Cr Z ID Z Z Z) (J (FE (f:=40) Z Z (Q) Z HQ Z) (V (FX (qW y.qh y.q.length) Z [] trivial Z Z Z Z Z Z Z Z Z) (AC (AX ?_))))))));refine jO [2,3,9,38,39,40,55] Z ?_;refine Zi (γ:=Option Nat) hFl 900 Z Z Z Z Z [1,2,4,40,50,51] (CHr:=xK N y (pb j) H O L M none) (λo=>o=y.q.reverse.find? (kS N)) (λo=>xK N y (pb j) H O L M o) (λo=>sj o.isSome) (λo=>wI o.isSome) ⟨Z,Z,Z,Z,Z,Z,trivial⟩ Z Z Z (λ_=>rfl) (λ_=>rfl) Z (λo _=>by cases o<;>simp[sj]) (λ_ _=>⟨Z,Z⟩) [1,2,4,40,50,51] K Z Z (λ_ _=>rfl) (λl A B hA hB=>?_) (λo ho=>?_)
    .refine (qX nb y.q (by omega) hyq l (λo:Option Nat=>(900,[.loop ⟨l,74,[(2,.ptr 1 0 0),(3,.ptr 2 0 0),(9,.ptr 4 0 0),(38,.d (ji N.mh N.po.length)),(39,.d (AE (N.po.length:Int))),(40,.d (AE (j:Int))),(55,.fn iC [.d (.ptr (ji y.qh y.q.length))])],sj o.isSome,wI o.isSome, #[56,57],A,B⟩])::xK N y (pb j) H O L M o) [900,1,2,4,40,50,51] (If N) none (λ_=>rfl) (λ_=>rfl) (λ_=>rfl) (λ_=>rfl) ?_).mono (λr H' ⟨e1,e2⟩=>⟨e1,_,Z,by rw[e2,hZ N y.q y.q.length (Θ _),kV]⟩);refine ZY N y.q (λk2 hk2=>?_) y.q.length (Θ _);have hni:y.q[k2]<N.nd.length:=h.q y C _ (ϑ hk2)
     obtain ⟨x,G⟩:∃x,N.nd[y.q[k2]]? =some x:=⟨_,ω hni⟩
     obtain ⟨E,_,_⟩:=h.nn _ x G;have hgx:N.nd.getD y.q[k2] CV=x:=by rw[Ψ,G];rfl
     have hon:kS N y.q[k2]=x.on:=by unfold kS;rw[hgx]
     refine Tz (lf:=900) Z Z Z Z λF K hr=>(CK.code hA (AF (AB Z Z (AC (⟨Z,_,_,Z,Z,Z,Z,?_⟩)))));refine CK.code hB ?_;refine AX (AD (AF (ch Z Z (J (Dx Z Z) (J (Cr Z F8 Z Z Z) (J (FE (f:=40) Z Z (E) Z tH Z) (AC (KB Z (λU=>?_) (λU=>?_)))))))))
     .refine AD (Bq [[],[0],[0,1],[0,1,2],[0,1,2,3],[],[5],[5,6],[5,6,7],rg 9,rg 10,rg 11] mixed Z (B2 (A7 11 Z Z (AK [62] Z (Dx Z Z) (AK [63] Z (Cr Z G7 Z Z Z) (AK [64] Z (Cr Z QW Z Z Z) ?_))))));refine A1 [65] [40] Z Z (λ_=>Aa (FE (f:=40) Z Z (E) Z Ai Z)) (A1 [9] [4] Z Z (λ_=>Aa (AQ Z Z Z FR Z)) (AK [67] Z (Dx Z Z) (AK [68] Z (Cr Z OY Z Z Z) (A1 [69] [40] Z Z (λ_=>Aa (De (f:=40) Z Z (Q) Cw Z Z (by simp[D.one]) Z)) (BV 9 Z Z Z (A0 10 Z Z (J (Dz KD Ug Z Z Z) (AC ⟨Z,?_⟩))))))));refine A0 11 Z Z (V (Bi Z Z Z Z Z Z Z Kr) (AC ⟨Z,?_⟩));refine A0 12 Z Z (V (Bi Z Z Z Z Z Z Z v4) (AC ⟨Z,?_⟩));refine Bb (A4 ?_);have v:kS N y.q[k2]=true:=by rw[hon];simpa using U
      exact ⟨some .ret,_,_,[900,1,2,4,40,50,51],_,Z,Z,Z,Z,Z,Z,by rw[v];rfl,by rw[ϱ v];simp only[xK,wl,hgx];rfl⟩
     .refine AU ?_;have v:kS N y.q[k2]=false:=by rw[hon];simpa using U
      exact ⟨none,_,_,[900,1,2,4,40,50,51],_,Z,Z,Z,Z,Z,Z,by rw[v];rfl,by rw[ν (by rw[v];decide)];rfl⟩
    .rcases o with _ | i0
     .have b:W9 N y=none:=by unfold W9;first | (rw[ν (by rw[hovy];decide)]) | (rw[ϱ hovy,<-ho];rfl)
      refine AF (J (Ad Z Z (AJ (j+1) (by omega)) Z) (ch Z Z (AC ?_)));exact ⟨j+1,⟨by show j+1<=_;omega,by rw[ψ s];intro e a;rcases υ.1 a with a | a;exact z e a;rw[ξ.1 a,P];exact b⟩,by show N.po.length-(j+1)<N.po.length-j;omega,AR K [1,2,40,50,51] Z (Z) ⟨Z,Z,Z,Z,Z,trivial⟩⟩
     .show CK _ _ .ret _ _;refine A4 ?_;exact ⟨_,[40,50,51],_,A2 Z,Z,Z,by unfold Dj;rw[hnn];dsimp only;rw[Do s z (by rw[P];unfold W9;rw[ϱ hovy,<-ho];rfl)];rfl,Z⟩
  .refine Aq (AD (AF (J (Dz KD Ug Z Z Z) (V (Bi Z Z Z Z Z Z Z Kr) (V (Bi Z Z Z Z Z Z Z v4) (AC (A4 ?_)))))));exact ⟨_,[40,50,51],_,A2 Z,Z,Z,by unfold Dj;rw[hnn];dsimp only;rw[Dn (by have e:j=N.po.length:=(by have h:=W;omega);rw[e,kV] at z;exact z)];rfl,Z⟩
theorem SR.splitH{F:Fr}{s:AS}{L:Nat->Nat->Value}{k:Act}{w:World}(l:SR F s L k w)(t g f:Nat){T:TypeId}{A m:Nat}{h:Hd}{I:List D}{u:List (Nat×AV)}{c hp':Hp}(C:Nat.beq g f=false)(B:get s.env t=some (.d (ji h m)))(Y:m=I.length)(hM:dr s.hp f=some [.multi M])(j:BX M h T A I)(hE:Ab g s.env=some u)(J:A9 g s.hp=some c)(R:dr c g=none)(E:Bt c f (Bo M h)=some hp'):
  ∃v,SR F ⟨s.n,(t,.own g 0 m)::u,(g,[.rowD T A I])::hp'⟩ (upd L g 0 v) k w:=by
 match h,B,j,E with
 | some (b,cap),B,j,E=>exact ⟨_,l.splitR t g f (cap:=cap) (b:=b) C B Y hM j.2 hE J R E⟩
 | none,B,j,E=>
  have S:I=[]:=j;subst S Y;have hgf:g≠f:=lz C;refine ⟨.slice none 0 0,?_⟩
  have V:hp'=c:=by
   have P:∀(H z:Hp),dr H f=some [.multi M]->Bt H f M=some z->z=H:=by
    intro H
    induction H with
    | nil=>intro z h;cases h
    | cons p r ih=>
     grind[dr,Bt]
   obtain ⟨a1,a2⟩:=BD J
   have W:dr c f=some [.multi M]:=by
    have X:∀(H z:Hp),C6 (Br g) H=some z->dr H f=some [.multi M]->dr z f=some [.multi M]:=by
     intro H
     induction H with
     | nil=>intro z _ h;cases h
     | cons p r ih=>
      grind[C6,Es,dr,C5]
    grind
   exact P c hp' W E
  rw[V]
  have h1:SR F ⟨s.n,(t,.d (.sl (some true) []))::s.env,s.hp⟩ L k w:=⟨l.size,l.defs,λN a y=>by
   rcases NP y with ⟨rfl,rfl⟩ | ⟨_,y⟩
   .have j:=l.env t _ B
    generalize k.tmps.getD t undef=x at j⊢
    cases j with
    | d h=>cases h with
     | raw _=>exact .d (.sl 0 (λb G=>by cases G;rfl) (λ_=>rfl) Z (Θ _) (κ _) (λx U=>by cases U) (λh=>absurd Z h) (λb o G=>by cases G))
   .exact l.env N a y,l.heap⟩
  obtain ⟨k1,k2⟩:=BD J
  have Q:∀i,cj s.hp g i=none:=λi=>by
   cases hq:cj s.hp g i with
   | none=>rfl
   | some o=>
    obtain ⟨o2,O,_⟩:=k2 _ _ _ hq;unfold cj at O;rw[R] at O;cases O
  have K:=l.set g 0 (.rowD T A []) (.slice none 0 0) (hp':=(g,[.rowD T A []])::c) hE J (λf' i=>by
   by_cases e:g=f'
   .subst e;simp only[cj,dr,lY,mW,true_and,Ms (o:= .rowD T A []) Z,R,Option.bind_none]
    cases i<;>simp
   .simp only[cj,dr,I9 e]
    rw[ν (λhh=>e hh.1.symm)]) (λt cs e=>by rw[Q] at e;cases e) (λb G=>by cases G) Z Z Z (Θ _) (λ_ _ _=>rfl) (λ_=>⟨[],World.ownsRow_nil w 0 T A,⟨by simp,by simp,λi x U=>by simp at U⟩,by simp⟩)
  refine ⟨K.size,K.defs,λN a y=>?_,K.heap⟩;rcases NP y with ⟨rfl,rfl⟩ | ⟨_,y⟩
  .have j:=l.env t _ B
   generalize k.tmps.getD t undef=x at j⊢
   cases j with
   | d h=>cases h with | raw _=>exact .own Qj (Θ _)
  .exact K.env N a y
section
variable{P:Program}{F:Fr}{Q:Exit->AS->Prop}{c:Code}{ops:Array Oper}{l:List Oper}{n:Nat}{env env1 env':List (Nat×AV)}{hp hp1 hp2 hp3:Hp}
theorem Hc{o:Oper}(t g f:Nat){M:MF}{T:TypeId}{y m:Nat}{h:Hd}{r:List D}{b:Hp}{x:AS}(C:BX M h T y r)(s:Nat.beq g f=false)(A:get env t=some (.d (ji h m)))(E:m=r.length)(H:dr hp f=some [.multi M])(J:Ab g env=some env')(I:A9 g hp=some hp1)(z:dr hp1 g=none)(G:Bt hp1 f (Bo M h)=some b)(N:AH P F o ⟨n,(t,.own g 0 m)::env',(g,[.rowD T y r])::b⟩ x (Br g)):AH P F o ⟨n,env,hp⟩ x (Br g):=λR u w B=>by
 obtain ⟨v,O⟩:=B.splitH t g f s A E H C J I z G;exact qk (λa S ⟨k,L,K⟩=>⟨k,L,λf i j=>(K f i j).trans (O8 λe=>To j e.1)⟩) (N _ u w O)
end
variable{a c:Nat->Nat}{N:jh}{M:MF}{f g i h:Nat}{x:Nd}{j:List D}{t:TypeId}{k o s:Nat}{y:Po}{u:Au}{w:MF}
theorem Ca.row{N':jh}(i:Ca f g c a N M)(k:RI){w0 w1:jl}(B:Cs c a N k=w0)(A:Cs c a N' k=w1)(y:∀r,r≠k->Cs c a N' r=Cs c a N r)(u:Bo M w0.h h=none)(z:w1.h=some (h,o))(w:w1.xs.length<=o):
  FY (Bh (Bo M w0.h) h (.row w1.t w1.k o w1.xs)) (Cs c a N')/\∀(s:Nat) (t:TypeId) (l:List D),M s=some (.cells t l)->Bh (Bo M w0.h) h (.row w1.t w1.k o w1.xs) s=some (.cells t l):=by
 subst B A;refine ⟨i.rs.upd k y u z w,λs t l v=>l9 u v λj x=>?_⟩;have:=i.rs.blk x
 grind
theorem Ca.putNd(h:Ca f g c a N M){l:Nd}(C:N.nd[i]? =some x)(E:∀(F:Nat) (t:TypeId) (s:List D),M F=some (.cells t s)->w F=some (.cells t s))(G:FY w (Cs c a {N with nd:=N.nd.set i l}))(J:(∀e∈l.ef,e.1<N.po.length)/\∀e∈l.pl,e.1<N.po.length):
  Ca f g c a {N with nd:=N.nd.set i l} (Bh w (c i) (Wc l)):=by
 have K:=h.n i x C;have B:=(φ.1 C).1
 have u:∀(b:Nat) (t:TypeId) (s:List D),t≠184->M b=some (.cells t s)->Bh w (c i) (Wc l) b=some (.cells t s):=λb t s O P=>by
  grind[IV]
 refine ⟨λj z r=>?_,λj y v=>u _ _ _ (by decide) (h.p j y v),G.cells (E _ _ _ K),?_,λj k I H=>h.ni j k (by simpa using I) (by simpa using H),h.pi,λz r=>?_,λy v=>?_⟩
 .have o:(N.nd.set i l)[j]? =some z:=r
  clear r
  have A:j<N.nd.length:=by have:=(φ.1 o).1;rw[kn] at this;exact this
  rw[nC] at o
  split at o
  .grind[H3]
  .rename_i e
   rw[IV]
   .exact E _ _ _ (h.n j z o)
   .intro L;exact e (h.ni j i A B L).symm
 .show Bh w (c i) (Wc l) f=some (.cells _ [ji N.nh (N.nd.set i l).length,ji N.mh N.po.length,_]);rw[kn];exact u _ _ _ (by decide) h.w
 .rcases my r with r | rfl
  .exact h.e z r
  .exact J
 .have:=h.q y v
  simpa using this
theorem Ca.putPo(h:Ca f g c a N M){r:Po}(E:N.po[k]? =some y)(F:∀(G:Nat) (t:TypeId) (u:List D),M G=some (.cells t u)->w G=some (.cells t u))(H:FY w (Cs c a {N with po:=N.po.set k r}))(I:∀i∈r.q,i<N.nd.length):
  Ca f g c a {N with po:=N.po.set k r} (Bh w (a k) (Wa r)):=by
 have L:=h.p k y E;have B:=(φ.1 E).1
 have v:∀(b:Nat) (t:TypeId) (u:List D),t≠190->M b=some (.cells t u)->Bh w (a k) (Wa r) b=some (.cells t u):=λb t u P Q=>by
  grind[IV]
 refine ⟨λi x A=>v _ _ _ (by decide) (h.n i x A),λi z s=>?_,H.cells (F _ _ _ L),?_,h.ni,λi l K J=>h.pi i l (by simpa using K) (by simpa using J),λx A=>?_,λz s=>?_⟩
 .have o:(N.po.set k r)[i]? =some z:=s
  clear s
  have C:i<N.po.length:=by have:=(φ.1 o).1;rw[kn] at this;exact this
  rw[nC] at o
  split at o
  .grind[H3]
  .rename_i e
   rw[IV]
   .exact F _ _ _ (h.p i z o)
   .intro O;exact e (h.pi i k C B O).symm
 .show Bh w (a k) (Wa r) f=some (.cells _ [ji N.nh N.nd.length,ji N.mh (N.po.set k r).length,_]);rw[kn];exact v _ _ _ (by decide) h.w
 .have:=h.e x A
  simpa using this
 .rcases my s with s | rfl
  .exact h.q z s
  .exact I
abbrev uO:TypeId:=188
abbrev tC:TypeId:=254
abbrev en:TypeId:=176
abbrev Ye:TypeId:=186
def GQ(x:Nd)(b cap:Nat)(e:Nat×Int):Nd:={x with eh:=some (b,cap),ef:=x.ef++ [e]}
def JV(x:Nd)(b cap:Nat)(e:Nat×Nat):Nd:={x with ph:=some (b,cap),pl:=x.pl++ [e]}
def MB(y:Po)(b cap:Nat)(i:Nat):Po:={y with qh:=some (b,cap),q:=y.q++ [i]}
theorem Ca.addE(l:Ca f g c a N M)(t:N.nd[i]? =some x)(e:Nat×Int)(y:e.1<N.po.length)(A:Bo M x.eh h=none)(w:((x.ef++ [e]).map (iN a)).length<=o):
  Ca f g c a {N with nd:=N.nd.set i (GQ x h o e)} (Bh (Bh (Bo M x.eh) h (.row uO 2 o ((x.ef++ [e]).map (iN a)))) (c i) (Wc (GQ x h o e))):=by
 have s:=(φ.1 t).1
 obtain ⟨C,B⟩:=l.row (N':={N with nd:=N.nd.set i (GQ x h o e)}) (.e i) (w0:=⟨x.eh,uO,2,x.ef.map (iN a)⟩) (w1:=⟨some (h,o),uO,2,(x.ef++ [e]).map (iN a)⟩)
  (by show (⟨(N.nd.getD i CV).eh,_,_,(N.nd.getD i CV).ef.map _⟩:jl)=_;rw[Hy t])
  (by show (⟨((N.nd.set i (GQ x h o e)).getD i CV).eh,_,_,((N.nd.set i (GQ x h o e)).getD i CV).ef.map _⟩:jl)=_;rw[FD s,ϱ rfl];rfl)
  (λr v=>by
   cases r with
   | q j=>rfl
   | m=>rfl
   | n=>show (⟨_,_,_,(List.range (N.nd.set i (GQ x h o e)).length).map _⟩:jl)=_;rw[kn];rfl
   | e k=>
    show (⟨((N.nd.set i (GQ x h o e)).getD k CV).eh,_,_,((N.nd.set i (GQ x h o e)).getD k CV).ef.map _⟩:jl)=⟨(N.nd.getD k CV).eh,_,_,(N.nd.getD k CV).ef.map _⟩
    rw[FD s,ν (λe=>v (by rw[e]))]
   | p k=>
    show (⟨((N.nd.set i (GQ x h o e)).getD k CV).ph,_,_,((N.nd.set i (GQ x h o e)).getD k CV).pl.map _⟩:jl)=⟨(N.nd.getD k CV).ph,_,_,(N.nd.getD k CV).pl.map _⟩
    rw[FD s,Rz t k CV]
    split<;>rfl) A Z w
 refine l.putNd t B C ⟨λz u=>?_,(l.e x (ϖ t)).2⟩;rcases υ.1 u with u | u
 .exact (l.e x (ϖ t)).1 z u
 .rw[ξ.1 u];exact y
theorem Ca.addP(l:Ca f g c a N M)(t:N.nd[i]? =some x)(e:Nat×Nat)(y:e.1<N.po.length)(A:Bo M x.ph h=none)(w:((x.pl++ [e]).map (nK a)).length<=o):
  Ca f g c a {N with nd:=N.nd.set i (JV x h o e)} (Bh (Bh (Bo M x.ph) h (.row tC 2 o ((x.pl++ [e]).map (nK a)))) (c i) (Wc (JV x h o e))):=by
 have s:=(φ.1 t).1
 obtain ⟨C,B⟩:=l.row (N':={N with nd:=N.nd.set i (JV x h o e)}) (.p i) (w0:=⟨x.ph,tC,2,x.pl.map (nK a)⟩) (w1:=⟨some (h,o),tC,2,(x.pl++ [e]).map (nK a)⟩)
  (by show (⟨(N.nd.getD i CV).ph,_,_,(N.nd.getD i CV).pl.map _⟩:jl)=_;rw[Hy t])
  (by show (⟨((N.nd.set i (JV x h o e)).getD i CV).ph,_,_,((N.nd.set i (JV x h o e)).getD i CV).pl.map _⟩:jl)=_;rw[FD s,ϱ rfl];rfl)
  (λr v=>by
   cases r with
   | q j=>rfl
   | m=>rfl
   | n=>show (⟨_,_,_,(List.range (N.nd.set i (JV x h o e)).length).map _⟩:jl)=_;rw[kn];rfl
   | p k=>
    show (⟨((N.nd.set i (JV x h o e)).getD k CV).ph,_,_,((N.nd.set i (JV x h o e)).getD k CV).pl.map _⟩:jl)=⟨(N.nd.getD k CV).ph,_,_,(N.nd.getD k CV).pl.map _⟩
    rw[FD s,ν (λe=>v (by rw[e]))]
   | e k=>
    show (⟨((N.nd.set i (JV x h o e)).getD k CV).eh,_,_,((N.nd.set i (JV x h o e)).getD k CV).ef.map _⟩:jl)=⟨(N.nd.getD k CV).eh,_,_,(N.nd.getD k CV).ef.map _⟩
    rw[FD s,Rz t k CV]
    split<;>rfl) A Z w
 refine l.putNd t B C ⟨(l.e x (ϖ t)).1,λz u=>?_⟩;rcases υ.1 u with u | u
 .exact (l.e x (ϖ t)).2 z u
 .rw[ξ.1 u];exact y
theorem Ca.addQ(s:Ca f g c a N M)(v:N.po[k]? =some y){i:Nat}(A:i<N.nd.length)(B:Bo M y.qh h=none)(x:((y.q++ [i]).map λi=>B4 (c i)).length<=o):
  Ca f g c a {N with po:=N.po.set k (MB y h o i)} (Bh (Bh (Bo M y.qh) h (.row en 1 o ((y.q++ [i]).map λi=>B4 (c i)))) (a k) (Wa (MB y h o i))):=by
 have u:=(φ.1 v).1
 obtain ⟨D,C⟩:=s.row (N':={N with po:=N.po.set k (MB y h o i)}) (.q k) (w0:=⟨y.qh,en,1,y.q.map λi=>B4 (c i)⟩) (w1:=⟨some (h,o),en,1,(y.q++ [i]).map λi=>B4 (c i)⟩)
  (by show (⟨(N.po.getD k Cd).qh,_,_,(N.po.getD k Cd).q.map _⟩:jl)=_;rw[Hy v])
  (by show (⟨((N.po.set k (MB y h o i)).getD k Cd).qh,_,_,((N.po.set k (MB y h o i)).getD k Cd).q.map _⟩:jl)=_;rw[FD u,ϱ rfl];rfl)
  (λr w=>by
   cases r with
   | e l=>rfl
   | p l=>rfl
   | n=>rfl
   | m=>show (⟨_,_,_,(List.range (N.po.set k (MB y h o i)).length).map _⟩:jl)=_;rw[kn];rfl
   | q l=>
    show (⟨((N.po.set k (MB y h o i)).getD l Cd).qh,_,_,((N.po.set k (MB y h o i)).getD l Cd).q.map _⟩:jl)=⟨(N.po.getD l Cd).qh,_,_,(N.po.getD l Cd).q.map _⟩
    rw[FD u,ν (λe=>w (by rw[e]))]) B Z x
 refine s.putPo v C D λz t=>?_;rcases υ.1 t with t | t
 .exact s.q y (ϖ v) z t
 .rw[ξ.1 t];exact A
def FO(x:Nd):Nd:={x with eh:=none,ph:=none}
def Cu(y:Po):Po:={y with qh:=none}
def BE(N:jh):jh:=⟨N.nd.map FO,N.po.map Cu,none,none⟩
def tm(x:Nd)(j:Nat)(n:Nat)(a:Int):Nd:={x with ef:=x.ef++ [(j,a)],pl:=if a<0 then x.pl++ [(j,n)] else x.pl}
def tl(y:Po)(i:Nat)(a:Int):Po:={y with sum:=y.sum+a,q:=if a<0 then y.q++ [i] else y.q}
theorem Ca.keepE(k:Ca f g c a N M)(r:N.nd[i]? =some x)(y:Bo M x.eh h=none)(o:M s=some (.cells t j)):Bh (Bo M x.eh) h u s=some (.cells t j):=
 l9 y o λl w=>by have:=Tt (k.nn i x r).2.1 w;rw[o] at this;cases this
theorem Ca.keepP(k:Ca f g c a N M)(r:N.nd[i]? =some x)(y:Bo M x.ph h=none)(o:M s=some (.cells t j)):Bh (Bo M x.ph) h u s=some (.cells t j):=
 l9 y o λl w=>by have:=Tt (k.nn i x r).2.2 w;rw[o] at this;cases this
theorem Ca.keepQ(i:Ca f g c a N M)(r:N.po[k]? =some y)(x:Bo M y.qh h=none)(o:M s=some (.cells t j)):Bh (Bo M y.qh) h u s=some (.cells t j):=
 l9 x o λl w=>by have:=Tt (i.pp k y r).2 w;rw[o] at this;cases this
theorem tj{Y mv:Nat}{L v:Nat->Nat}{N:jh}{M:MF}(h:Ca Y mv L v N M){i j:Nat}{x:Nd}{y:Po}(u:N.nd[i]? =some x)(O:N.po[j]? =some y)(a:Int)(ha: -100000000000000000<=a/\a<=100000000000000000)(hs: -1000000000000000000<=y.sum/\y.sum<=1000000000000000000)(he:x.ef.length<=100000)(hp:x.pl.length<=100000)(hq:y.q.length<=100000):
  AO prog 144 [.d (pD (L i) 0),.d (pD (v j) 0),.d (AE a)] (HN M) λr H'=>r= .tup []/\∃K M',H'=HN M'/\Ca Y mv L v K M'/\K.nh=N.nh/\K.mh=N.mh/\(∃X,K.nd=N.nd.set i X/\FO X=FO (tm x j y.q.length a))/\∃y',K.po=N.po.set j y'/\Cu y'=Cu (tl y i a):=by
 have A:=h.n i x u;have P:=(h.nn i x u).2.1;have hrp:=(h.nn i x u).2.2;have D:=(φ.1 u).1;have t:=(φ.1 O).1;have Q:=W4 (h.pp j y O).2;refine As func144 Z Z ntmps144 Z Z Z λF W=>?_;refine AD (AF (ch Z Z (ch Z Z (J (Dx Z Z) (J (Cr Z Lc Z Z Z) (J (FE (f:=40) Z Z (A) Z Yn Z) (ch Z Z (ch Z Z ?_))))))));refine J (Dz c6 wC Z Z Z) (V (CF 1 rU Z Z Z Z Z Z Z Z) (V (Hc 10 60 40 P Z Z (by simp) Z Z Z Z Z (DN (emb:=iN v) x.ef [(j,a)] Z Z Z Z Z Z Z Z rU (by simp only[ζ];omega) Z Z Z Z)) (Fh 15 60 40 W Z Z Z (by simp) (by simp) Z Z Z Z Z Z Z (λ_ _=>rfl) λb1 c1 H T=>(J (Dx Z Z) (J (Cr Z Lc Z Z Z) (V (Qk (f:=40) Z Z Z Z (h.keepE u H A) ((by show _<9;omega)) Z vc) (AC (AD ?_))))))));have I:=h.addE u (j,a) t H T;have w:=I.p j y O;refine AF (ch Z Z (J (Dx Z Z) ?_));refine J (Cr Z La Z Z Z) (J (FE (f:=40) Z Z (w) Z FJ Z) (ch Z Z (J (Ad Z Z (Ξ _ (by omega)) Z) (J (Dx Z Z) (J (Cr Z La Z Z Z) (V (Qk (f:=40) Z Z Z Z (w) ((by show _<10;omega)) Z xY) (AC (AD ?_))))))));have b:=I.setPo (y':={y with sum:=y.sum+a}) O Z Z;have k:(N.nd.set i (GQ x b1 c1 (j,a)))[i]? =some (GQ x b1 c1 (j,a)):=List.getElem?_set_self D;have c:(N.po.set j {y with sum:=y.sum+a})[j]? =some {y with sum:=y.sum+a}:=List.getElem?_set_self t;have s:=b.n i _ k;have z:=b.p j _ c;have C:=(b.nn i _ k).2.2;refine AF (ch Z Z (J (At Z Z Z) (AC (A5 Z (λg=>?_) (λg=>?_)))))
 .refine AD (Bq [[],[],[1],[1,2],[1,2,3],[],[],[6],[6,7],[6,7,8],[6,7,8,9],[5,6,7,8,9,10],[5,6,7,8,9,10,11],[1,2,3,4,5,6,7,8,9,10,11,12],rg 14,rg 15,rg 16] mixed Z (B2 (A7 0 Z Z ?_)));refine A7 0 Z Z (AK [29] Z (Dx Z Z) (AK [30] Z (Cr Z Lb Z Z Z) (A1 [31] [40] Z Z (λ_=>Aa (FE (f:=40) Z Z (s) Z Ym Z)) (A7 1 Z Z (A7 1 Z Z (AK [34] Z (Dx Z Z) (AK [35] Z (Cr Z ID Z Z Z) (A1 [36] [40] Z Z (λ_=>Aa (FE (f:=40) Z Z (z) Z HQ Z)) ?_))))))));refine AK [37] Z (YA Q Z S1 Z) (AK [33,38] Z (Dz YJ vw Z Z Z) (Cv [39] [2] [(40,_)] Z Z (λ_=>Cg (CF 2 rT Z Z Z Z Z Z Z Z)) (.inr ⟨40,_,Z,Z,Z,Z,Z⟩) Z Z Z Z Z (Cv [32,40] [61,40,2] [(41,_)] Z Z (λ_=>Cg (Hc 32 61 40 C Z Z (by simp[GQ]) Z Z Z Z Z (DN (emb:=nK v) x.pl [(j,y.q.length)] Z Z Z Z Z Z Z Z rT (by simp only[ζ];omega) Z Z Z Z))) (.inr ⟨41,_,Z,Z,Z,Z,Z⟩) Z Z Z Z Z (BV 14 Z Z Z (A0 15 Z Z (Fh 41 61 40 W Z Z Z (by simp) (by simp) Z Z Z Z Z Z Z (λ_ _=>rfl) λb2 c2 G S=>(J (Dx Z Z) (AC ⟨Z,?_⟩))))))));refine A0 16 Z Z (J (Cr Z Lb Z Z Z) (AC ⟨Z,?_⟩));refine A0 17 Z Z (V (Qk (f:=40) Z Z Z Z (b.keepP k G s) ((by show _<9;omega)) Z vb) (AC ⟨Z,?_⟩));refine Bb ?_;have l:=b.addP k (j,y.q.length) (by show j<(N.po.set j _).length;rw[kn];exact t) G S;have o:=l.p j _ c;have B:=(l.pp j _ c).2;refine AF (ch Z Z (ch Z Z (J (Dx Z Z) (J (Cr Z ID Z Z Z) ?_))));refine J (FE (f:=40) Z Z (o) Z HQ Z) (ch Z Z (V (CF 3 Y8 Z Z Z Z Z Z Z Z) (V (Hc 48 62 40 B Z Z (by simp) Z Z Z Z Z (DN (emb:=λi=>B4 (L i)) y.q [i] Z Z Z Z Z Z Z Z Y8 (by simp only[ζ];omega) Z Z Z Z)) (Fh 51 62 40 W Z Z Z (by simp) (by simp) Z Z Z Z Z Z Z (λ_ _=>rfl) λb3 c3 E R=>(J (Dx Z Z) (J (Cr Z ID Z Z Z) (V (Qk (f:=40) Z Z Z Z (l.keepQ c E o) ((by show _<10;omega)) Z rL) (AC ?_))))))));have U:=l.addQ c (i:=i) (by show i<((N.nd.set i _).set i _).length;rw[kn,kn];exact D) E R;exact ⟨_,[40],_,A2 Z,Z,Z,Z,_,_,Z,U,Z,Z,⟨_,List.set_set _,by unfold FO JV GQ tm;simp[g]⟩,⟨_,List.set_set _,by unfold Cu MB tl;simp[g]⟩⟩
 .refine AU ?_;exact ⟨_,[40],_,A2 Z,Z,Z,Z,_,_,Z,b,Z,Z,⟨_,Z,by unfold FO GQ tm;simp[g]⟩,⟨_,Z,by unfold Cu tl;simp[g]⟩⟩
end Go.Proofs.YteifpcnphnhaoaaGreat
