import Derived.Test.YteifpcnphnhaoaaGreatMg17
open Go.Proofs.Tryz
set_option maxHeartbeats 2000000
namespace Go.Proofs.YteifpcnphnhaoaaGreat
open Go.RowKit
set_option maxRecDepth 100000
section
variable{P:Program}{F:Fr}{s:AS}{d:Nat}{x y:Operand}{T E:TypeId}{ty:TypeId}{pos:String}{aft:Array Edge}{g:Option (Nat×Bool)}{k:IntKind}{i:Int}
variable{h:Hd}{a:Nat}
theorem Xv{h:Hd}{n:Nat}(j:h=none->n=0)(f:s.ev x=some (.d (jj h n)))(o:P.underlying T=some (.slice E))(l:Nat.blt d s.n=true):
  AA P F ⟨some d,.call {callee:= .builtin .len,args:= #[x],argTypes:= #[T]},ty,pos,aft,g⟩ s d (.d (AE (n:Int))):=by
 match h,j,f with
 | none,j,f=>
  have e:=j rfl;subst e;exact YY (a:=none) (n:=0) (cap:=0) f o l
 | some (b,c),_,f=>exact YY (a:=some ⟨b,0,none⟩) (n:=n) (cap:=c) f o l
theorem Xz{b c f:Nat}(t:h=some (b,c))(m:Nat)(l:s.ev x=some (.d (jj h a)))(j:s.ev y=some (.d (.raw (.int k i))))(r:i=(m:Int))(o:m<a)(v:P.underlying T=some (.slice E))(w:A3 P E f=true)(u:Nat.blt d s.n=true):
  AA P F ⟨some d,.indexAddr T x y,ty,pos,aft,g⟩ s d (.d (pD b (m*f))):=by
 subst t;exact aM m l j r o v w u
end
variable{a:List Po}{M:MF}{c:Type}{f:List c}{k:Nat}{t:TypeId}{h:Hd}{g:c->D}{i j:Nat->Nat}{o:Nat}{N:ji}{y:Po}{s u:Nat}
theorem WZ(a:B1 M h t k (f.map g)):h=none->f.length=0:=λe=>by
 subst e;have:f.map g=[]:=a
 simpa using this
theorem Wb(i:B1 M h t k (f.map g)){j:Nat}(o:j<f.length):∃b a,h=some (b,a):=by
 cases h with
 | none=>have:=WZ i rfl;omega
 | some p=>exact ⟨p.1,p.2,Z⟩
theorem Tq{a:List D}(f:B1 M h t k a){b c:Nat}(g:h=some (b,c)):M b=some (.row t k c a):=by
 subst g;exact f.2
def Np(po:List Po)(e:Nat×Int):List Po:=match po[e.1]? with
 | some y=>po.set e.1 {y with sum:=y.sum-e.2}
 | none=>po
def Q7(po:List Po)(e:Nat×Nat):List Po:=match po[e.1]? with
 | some y=>po.set e.1 {y with mi:=min y.mi e.2}
 | none=>po
theorem np{e:Nat×Int}(h:a[e.1]? =some y):Np a e=a.set e.1 {y with sum:=y.sum-e.2}:=by unfold Np;rw[h]
theorem ZA{e:Nat×Nat}{y:Po}(h:a[e.1]? =some y):Q7 a e=a.set e.1 {y with mi:=min y.mi e.2}:=by unfold Q7;rw[h]
def Ez(x:Nd):Nd:={x with on:=false}
def vt(N:ji)(i:Nat)(x:Nd):ji:={N with nd:=N.nd.set i (Ez x),po:=x.pl.foldl Q7 (x.ef.foldl Np N.po)}
theorem Mt{g:Type}{a:g->c->g}(h:k<f.length)(b:g):(f.take (k+1)).foldl a b=a ((f.take k).foldl a b) f[k]:=by
 rw[ψ h,List.foldl_append];rfl
def UI(po:List Po)(b:Int):Prop:=∀y∈po,-b<=y.sum/\y.sum<=b
theorem dJ{b c:Int}(h:UI a b)(i:b<=c){j:Nat}(g: -c<=y.sum/\y.sum<=c):UI (a.set j y) c:=λz f=>by
 rcases nC f with f | rfl
 .have:=h z f;omega
 .exact g
theorem eN(h:Cb s u j i N M){x:Nd}(E:N.nd[o]? =some x)(hB:UI N.po 1000000000000000000)(he:∀e∈x.ef,-100000000000000000<=e.2/\e.2<=100000000000000000)(hel:x.ef.length<=60)(hpl:x.pl.length<=1000)(hpb:∀e∈x.pl,e.2<=1000000)(hmb:∀y∈N.po,y.mi<=1000000):
  AO prog 140 [.d (pD (j o) 0)] (HN M) λr H'=>r= .tup []/\∃M',H'=HN M'/\Cb s u j i (vt N o x) M':=by
 have hxb:=(h.nn o x E).1;have hil:=(φ.1 E).1;have h1:=h.setNd (x':=Ez x) E Z Z Z Z;have G:(N.nd.set o (Ez x))[o]? =some (Ez x):=by rw[List.getElem?_set_self hil]
 have hez:=WZ (h.nn o x E).2.1;have hpz:=WZ (h.nn o x E).2.2;have S:=h.e x (ϖ E);refine Av func140 Z Z ntmps140 Z Z Z λF hF=>(AD ?_);refine AF (cl Z Z (J (EB Z Z) (J (Cs Z F6 Z Z Z) (V (Qh (f:=40) Z Z Z Z (hxb) ((by show _<9;omega)) Z vc) (AC (AD (AD (AF ?_))))))));refine cl Z Z (J (EB Z Z) (J (Cs Z Lg Z Z Z) (J (Eh (f:=40) Z Z ((Fj _ _ _)) Z Yi Z) (J (Xv hez Z underlying181 Z) (cl Z Z (AC (AX (BC (α:=Nat×List Po×MF) (λq=>⟨51,[(0,.d (pD (j o) 0)),(12,(.d (jj x.eh x.ef.length))),(13,(.d (AE (x.ef.length:Int)))),(14,(.d (AE (q.1:Int))))],HN q.2.2⟩) (λq=>q.1<=x.ef.length/\q.2.1=(x.ef.take q.1).foldl Np N.po/\Cb s u j i {N with nd:=N.nd.set o (Ez x),po:=q.2.1} q.2.2/\UI q.2.1 (1000000000000000000+100000000000000000*(q.1:Int))/\(∀y∈q.2.1,y.mi<=1000000)/\q.2.1.length=N.po.length) (λq=>x.ef.length-q.1) ((0,N.po,Bf M (j o) (W8 (Ez x)))) (⟨κ _,Z,h1,by show UI N.po (1000000000000000000+100000000000000000*((0:Nat):Int));simpa using hB,hmb,Z⟩) (AR hF [40] Z Z ⟨Z,Z,Z,Z,trivial⟩) ?_))))))));rintro ⟨k,po,M1⟩ ⟨hk0,I,O,hS,C,c⟩;dsimp only at hk0 I O hS C c⊢;refine AD (AF (J (At Z Z Z) (AC (AD (A4 Z (λL=>?_) (λL=>?_))))))
 .have l:k<x.ef.length:=BG L;refine AU (AD (AX (AD ?_)));obtain ⟨eb,ec,hee⟩:=Wb (h.nn o x E).2.1 l;have U:=Tq (O.nn o (Ez x) G).2.1 hee;have hjl:x.ef[k].1<po.length:=by rw[c];exact S.1 _ (ϑ l)
  obtain ⟨y,R⟩:∃y,po[x.ef[k].1]? =some y:=⟨_,ω hjl⟩
  have Q:=O.p _ y R;have hys:=hS y (ϖ R);have heb:=he _ (ϑ l);refine AF ?_;refine J (Xz hee (k) Z Z Z l underlying181 UG Z) (J (E4 (f:=40) (e:=k) Z (Z) Z (U) (AP l) Z dt Z) (V (CF 1 c8 Z Z Z Z) (V (Bc Z Z Z Z Z Z Z UG) (AC (Bm [[],[0],[0,1],[0,1,2],[0,1,2,3],[],[5],rg 7,rg 8,rg 9,rg 10] mixed Z (BY (AK [3] Z (AL Z TP Z Z Z) (A1 [18] [1] Z Z (λ_=>A9 (AQ Z Z Z cj Z)) ?_))))))));refine AK [19] Z (EB Z Z) (AK [20] Z (Cs Z Lc Z Z Z) (A1 [21] [40] Z Z (λ_=>A9 (Eh (f:=40) Z Z (Q) Z FK Z)) (AK [3] Z (AL Z TO Z Z Z) (A1 [23] [1] Z Z (λ_=>A9 (AQ Z Z Z FK Z)) (BR 7 Z Z Z (AZ 8 Z Z (J (MC Z Z (Ξ _ (by omega)) Z) (AC ⟨Z,?_⟩))))))));refine AZ 9 Z Z (J (EB Z Z) (AC ⟨Z,?_⟩));refine AZ 10 Z Z (J (Cs Z Lc Z Z Z) (AC ⟨Z,?_⟩));refine AZ 11 Z Z (V (Qh (f:=40) Z Z Z Z (Q) ((by show _<10;omega)) Z x5) (AC ⟨Z,?_⟩));refine Bb (AF (J (Ac Z Z (AJ (k+1) (by omega)) Z) (cl Z Z (AC ?_))));exact ⟨(k+1,po.set x.ef[k].1 {y with sum:=y.sum-x.ef[k].2},Bf M1 (i x.ef[k].1) (W6 {y with sum:=y.sum-x.ef[k].2})),⟨by show k+1<=_;omega,by show po.set _ _=_;rw[Mt l,<-I,np R],O.setPo R Z Z,by show UI _ (1000000000000000000+100000000000000000*((k+1:Nat):Int));exact dJ hS (by omega) (by show _<=y.sum-x.ef[k].2/\y.sum-x.ef[k].2<=_;omega),λz D=>by rcases nC D with D | rfl;exact C z D;exact C y (ϖ R),by show (po.set _ _).length=_;rw[kq];exact c⟩,by show x.ef.length-(k+1)<x.ef.length-k;omega,AR hF [40] Z (Z) ⟨Z,Z,Z,Z,trivial⟩⟩
 .refine Aq (AD ?_);have X:po=x.ef.foldl Np N.po:=by rw[I,ζ (by have h:=L;omega)]
  have T:=(O.nn o (Ez x) G).1;refine AF ?_;refine cl Z Z (J (EB Z Z) (J (Cs Z Ld Z Z Z) (J (Eh (f:=40) Z Z (T) Z Yh Z) (J (Xv hpz Z underlying182 Z) (cl Z Z (AC (AX (BC (α:=Nat×List Po×MF) (λq=>⟨51,[(32,(.d (jj x.ph x.pl.length))),(33,(.d (AE (x.pl.length:Int)))),(34,(.d (AE (q.1:Int))))],HN q.2.2⟩) (λq=>q.1<=x.pl.length/\q.2.1=(x.pl.take q.1).foldl Q7 (x.ef.foldl Np N.po)/\Cb s u j i {N with nd:=N.nd.set o (Ez x),po:=q.2.1} q.2.2/\(∀y∈q.2.1,y.mi<=1000000)/\q.2.1.length=N.po.length) (λq=>x.pl.length-q.1) ((0,po,M1)) (⟨κ _,X,O,C,c⟩) (AR hF [40] Z Z ⟨Z,Z,Z,trivial⟩) ?_))))))));rintro ⟨a,g,M2⟩ ⟨hj0,t,B,v,b⟩;dsimp only at hj0 t B v b⊢;refine AD (AF (J (At Z Z Z) (AC (AD (A4 Z (λK=>?_) (λK=>?_))))))
  .have A:a<x.pl.length:=BG K;refine AU (AD (AX (AD ?_)));obtain ⟨pbk,pcc,Y⟩:=Wb (h.nn o x E).2.2 A;have H:=Tq (B.nn o (Ez x) G).2.2 Y;have hjl2:x.pl[a].1<g.length:=by rw[b];exact S.2 _ (ϑ A)
   obtain ⟨z,D⟩:∃z,g[x.pl[a].1]? =some z:=⟨_,ω hjl2⟩
   have P:=B.p _ z D;have hzm:=v z (ϖ D);have hmin:(if ((x.pl[a].2:Nat):Int)<((z.mi:Nat):Int) then ((x.pl[a].2:Nat):Int) else ((z.mi:Nat):Int))=((min z.mi x.pl[a].2:Nat):Int):=by split<;>omega
   refine AF (J (Xz Y (a) Z Z Z A underlying182 Qn Z) (J (E4 (f:=40) (e:=a) Z (Z) Z (H) (AP A) Z dp Z) (V (CF 2 YE Z Z Z Z) ?_)));refine V (Bc Z Z Z Z Z Z Z Qn) (AC (Bm [[],[0],[],[2],[2,3],[2,3,4],[2,3,4,5],[],[7],[2,3,4,5,6,7,8],rg 10,rg 11,rg 12] mixed Z (BY (AK [5] Z (AL Z IA Z Z Z) (A1 [38] [2] Z Z (λ_=>A9 (AQ Z Z Z cj Z)) (AK [5] Z (AL Z IA Z Z Z) (A1 [40] [2] Z Z (λ_=>A9 (AQ Z Z Z cj Z)) (AK [41] Z (EB Z Z) ?_))))))));refine AK [42] Z (Cs Z Lb Z Z Z) (A1 [43] [40] Z Z (λ_=>A9 (Eh (f:=40) Z Z (P) Z Ag Z)) (AK [5] Z (AL Z TM Z Z Z) (A1 [45] [2] Z Z (λ_=>A9 (AQ Z Z Z Ag Z)) (AK [44,46] Z (S7 Z Z (hmin) Z) (BR 10 Z Z Z (AZ 11 Z Z (J (EB Z Z) (AC ⟨Z,?_⟩))))))));refine AZ 12 Z Z (J (Cs Z Lb Z Z Z) (AC ⟨Z,?_⟩));refine AZ 13 Z Z (V (Qh (f:=40) Z Z Z Z (P) ((by show _<10;omega)) Z BE) (AC ⟨Z,?_⟩));refine Bb ?_;skip;refine AF (J (Ac Z Z (AJ (a+1) (by omega)) Z) (cl Z Z (AC ?_)));exact ⟨(a+1,g.set x.pl[a].1 {z with mi:=min z.mi x.pl[a].2},Bf M2 (i x.pl[a].1) (W6 {z with mi:=min z.mi x.pl[a].2})),⟨by show a+1<=_;omega,by show g.set _ _=_;rw[Mt A,<-t,ZA D],B.setPo D Z Z,λw hw=>by rcases nC hw with hw | rfl;exact v w hw;show min z.mi _<=_;omega,by show (g.set _ _).length=_;rw[kq];exact b⟩,by show x.pl.length-(a+1)<x.pl.length-a;omega,AR hF [40] Z (Z) ⟨Z,Z,Z,trivial⟩⟩
  .refine Aq ?_;have W:g=x.pl.foldl Q7 (x.ef.foldl Np N.po):=by rw[t,ζ (by have h:=K;omega)]
   exact ⟨_,[40],_,A2 Z,Z,Z,Z,M2,Z,by unfold vt;rw[<-W];exact B⟩
def Bh(N:ji):List Int:=N.nd.map λx=>x.it.id
def Ga(nb:Nat->Nat)(ids:List Int):List (Int×Value):=(List.range ids.length).map λi=>(ids.getD i 0,pV (nb i) 0)
theorem Te{nb:Nat->Nat}{a:List Int}(c:a.Nodup)(b:o<a.length):Af (Ga nb a) a[o] (.pointer none)=pV (nb o) 0:=by
 refine jT ?_ (Γ.2 ⟨o,Ω.2 b,by rw[EC 0 b]⟩)
 have:(Ga nb a).map Prod.fst=a:=by
  unfold Ga;rw[jy];refine ld (by simp) λj g f=>?_
  grind
 grind
abbrev HW(mv:Nat)(bs:Option (List Nat×Nat))(L:List (Int×Value))(M:MF):Hp:=[(40,[.multi M]),(50,[.map bs (Bi AE M7 L)]),(51,[.addr 50 0 (.map (some mv))])]
structure I1 where
 id:Int
 re:Int
 r:AW
 by_:Int
def FZ:AW:=⟨0,Tj,[],[]⟩
def Ns:I1:=⟨0,0,FZ,0⟩
abbrev TV(e:I1):D:= .agg [AE e.id,AE e.re,AE e.r.k,Am e.r.acc.o,AE e.r.acc.k,Am e.r.acc.a,Am e.r.f,Am e.r.t,AE e.by_]
abbrev wy(o:Option I1):D:= .tup [TV (o.getD Ns),Aj o.isSome]
def kw(N:ji)(e:Nat×Nat):Bool:=decide ((N.po.getD e.1 Ce).mi<e.2)
def TU(N:ji)(x:Nd)(e:Nat×Nat):I1:=⟨x.it.id,1,(N.po.getD e.1 Ce).r,(N.nd.getD ((N.po.getD e.1 Ce).q.getD (N.po.getD e.1 Ce).mi 0) CV).it.id⟩
def je(N:ji)(id:Int):Bool:=!(N.nd.getD ((Bh N).idxOf id) CV).on
def G5(N:ji)(x:Nd):Option I1:=match x.pl.find? (kw N) with
 | some e=>some (TU N x e)
 | none=>match x.it.af.find? (je N) with
  | some id=>some ⟨x.it.id,2,FZ,id⟩
  | none=>none
theorem Jh{b:Type}{p:b->Bool}:∀{l:List b} {k:Nat} (c:k<l.length),(∀x∈l.take k,p x=false)->p l[k]=true->l.find? p=some l[k]
 | a::l,0,_,_,h=>by simp at h;simp[h]
 | a::l,k+1,c,f,h=>by
  have j:p a=false:=f a (by simp);have g:=Jh (l:=l) (k:=k) (by simpa using c) (λx i=>f x (by simp[i])) (by simpa using h);rw[List.find?_cons,j];simpa using g
theorem HS{p:c->Bool}{l:List c}(h:∀x∈l,p x=false):l.find? p=none:=by grind
structure lV (N:ji):Prop where
 i:(Bh N).Nodup
 a:∀x∈N.nd,∀id∈x.it.af,id∈Bh N
 l:∀x∈N.nd,x.ef.length<=60/\x.pl.length<=1000/\x.it.af.length<=1000
 e:∀x∈N.nd,∀e∈x.ef,-100000000000000000<=e.2/\e.2<=100000000000000000
 p:∀x∈N.nd,∀e∈x.pl,e.2<(N.po.getD e.1 Ce).q.length/\e.2<=1000000
 m:∀y∈N.po,y.mi<=1000000
 rm:∀y∈N.po,-1000000000000000000<=y.room/\y.room<=1000000000000000000
 n:N.nd.length<=1000/\N.po.length<=1000
 ql:∀y∈N.po,y.q.length<=1000
theorem pE{wb K:Nat}{nb pb:Nat->Nat}{N:ji}{M:MF}(bs:Option (List Nat×Nat))(h:Cb wb K nb pb N M)(hw:lV N){i:Nat}{x:Nd}(hx:N.nd[i]? =some x):
  AO prog 193 [.d (pD wb 0),.d (pD (nb i) 0)] (HW K bs (Ga nb (Bh N)) M) λr H'=>r= .d (wy (G5 N x))/\H'=HW K bs (Ga nb (Bh N)) M:=by
 have hwb:=h.w;have o:=ϖ hx;obtain ⟨s,hre,C⟩:=h.nn i x hx;have hpz:=WZ C;obtain ⟨_,hpl,hafl⟩:=hw.l x o;have hxe:=h.e x o;have hxp:=hw.p x o;have hxa:=hw.a x o;refine Av func193 Z Z ntmps193 Z Z Z λF hF=>(AD (AF (V (CF 1 KA Z Z Z Z) (AB Z Z (AC (AD (AD (AF ?_))))))));refine cl Z Z (J (EB Z Z) (J (Cs Z Ld Z Z Z) (J (Eh (f:=40) Z Z (s) Z Yh Z) (J (Xv hpz Z underlying182 Z) (cl Z Z (AC (AX (BC (α:=Nat) (λk=>⟨85,[(0,.d (pD wb 0)),(1,.d (pD (nb i) 0)),(4,(.ptr 1 0 0)),(13,(.d (jj x.ph x.pl.length))),(14,(.d (AE (x.pl.length:Int)))),(15,(.d (AE (k:Int))))],(1,[.blk 245 [.d (AE 0),.d (AE 0),.d (AE 0),.d (Am []),.d (AE 0),.d (Am []),.d (Am []),.d (Am []),.d (AE 0)]])::HW K bs (Ga nb (Bh N)) M⟩) (λk=>k<=x.pl.length/\∀e∈x.pl.take k,kw N e=false) (λk=>x.pl.length-k) (0) (⟨κ _,by simp⟩) (AR hF [1,40,50,51] Z Z ⟨Z,Z,Z,Z,Z,Z,trivial⟩) ?_))))))));rintro k ⟨hk0,t⟩;refine AD (AF (J (At Z Z Z) (AC (AD (A4 Z (λI=>?_) (λI=>?_))))))
 .have a:k<x.pl.length:=BG I;refine AU (AD (AX (AD ?_)));obtain ⟨eb,ec,W⟩:=Wb C a;have P:=Tq C W;have hjl:x.pl[k].1<N.po.length:=hxe.2 _ (ϑ a)
  obtain ⟨y,hy⟩:∃y,N.po[x.pl[k].1]? =some y:=⟨_,ω hjl⟩
  have w:N.po.getD x.pl[k].1 Ce=y:=by rw[Ψ,hy];rfl
  obtain ⟨l,O⟩:=h.pp _ y hy;have hpk:=hxp _ (ϑ a);rw[w] at hpk;refine AF (J (Xz W (k) Z Z Z a underlying182 Qn Z) ?_);refine J (E4 (f:=40) (e:=k) Z (Z) Z (P) (AP a) Z dp Z) (V (CF 2 YE Z Z Z Z) (V (Bc Z Z Z Z Z Z Z Qn) (AC (AD (Bm [[],[0],[0,1],[0,1,2],[0,1,2,3],[],[5],rg 7] mixed Z (BY (AK [7] Z (AL Z IA Z Z Z) (A1 [19] [2] Z Z (λ_=>A9 (AQ Z Z Z cj Z)) ?_))))))));refine AK [20] Z (EB Z Z) (AK [21] Z (Cs Z Lb Z Z Z) (A1 [22] [40] Z Z (λ_=>A9 (Eh (f:=40) Z Z (l) Z Ag Z)) (AK [7] Z (AL Z TM Z Z Z) (A1 [24] [2] Z Z (λ_=>A9 (AQ Z Z Z Ag Z)) (BR 7 Z Z Z (AZ 8 Z Z (J (At Z Z Z) (AC ⟨Z,?_⟩))))))));refine Bb (A4 Z (λA=>?_) (λA=>?_))
  .refine AD ?_;have b:y.mi<y.q.length:=by have h:=A;omega
   obtain ⟨qb,qc,Q⟩:=Wb O b;have E:=Tq O Q;have hni:y.q[y.mi]<N.nd.length:=h.q y (ϖ hy) _ (ϑ b)
   obtain ⟨z,L⟩:∃z,N.nd[y.q[y.mi]]? =some z:=⟨_,ω hni⟩
   obtain ⟨B,_,_⟩:=h.nn _ z L;have Y:G5 N x=some ⟨x.it.id,1,y.r,z.it.id⟩:=by unfold G5;rw[Jh a t (by unfold kw;rw[w];exact Υ (by have h:=A;omega))];unfold TU;dsimp only;rw[w,EC 0 b,Ψ,L];rfl
   refine Bm [[],[0],[0,1],[0,1,2],[0,1,2,3],[],[5],[5,6],[5,6,7],[5,6,7,8],[],[10],[10,11],[10,11,12],[10,11,12,13],[],[15],[15,16],[15,16,17],[15,16,17,18],[10,11,12,13,14,15,16,17,18,19],[10,11,12,13,14,15,16,17,18,19,20],[10,11,12,13,14,15,16,17,18,19,20,21],[10,11,12,13,14,15,16,17,18,19,20,21,22],[10,11,12,13,14,15,16,17,18,19,20,21,22,23],[10,11,12,13,14,15,16,17,18,19,20,21,22,23,24],rg 26,rg 27,rg 28] mixed Z (BY (A7 1 Z Z (AK [27] Z (EB Z Z) (AK [28] Z (Cs Z G6 Z Z Z) ?_))));refine AK [29] Z (Cs Z QU Z Z Z) (A1 [30] [40] Z Z (λ_=>A9 (Eh (f:=40) Z Z (s) Z Ag Z)) (AK [7] Z (AL Z IA Z Z Z) (A1 [32] [2] Z Z (λ_=>A9 (AQ Z Z Z cj Z)) (AK [33] Z (EB Z Z) (AK [34] Z (Cs Z OS Z Z Z) (A1 [35] [40] Z Z (λ_=>A9 (Dh (f:=40) Z Z (l) Cw Z Z (by simp[D.one]) Z)) (AK [7] Z (AL Z IA Z Z Z) (A1 [37] [2] Z Z (λ_=>A9 (AQ Z Z Z cj Z)) ?_))))))));refine AK [38] Z (EB Z Z) (AK [39] Z (Cs Z IB Z Z Z) (A1 [40] [40] Z Z (λ_=>A9 (Eh (f:=40) Z Z (l) Z HO Z)) (AK [7] Z (AL Z IA Z Z Z) (A1 [42] [2] Z Z (λ_=>A9 (AQ Z Z Z cj Z)) (AK [43] Z (EB Z Z) (AK [44] Z (Cs Z Lb Z Z Z) (A1 [45] [40] Z Z (λ_=>A9 (Eh (f:=40) Z Z (l) Z Ag Z)) (AK [41,46] Z (Xz Q (y.mi) Z Z Z b S1 NQ Z) ?_))))))));refine A1 [47] [40] Z Z (λ_=>A9 (qq (f:=40) (e:=y.mi) (off:=0) Z (by omega) Z (E) (AP b) Z PN Z)) (AK [48] Z (EB Z Z) (AK [49] Z (Cs Z G6 Z Z Z) (AK [50] Z (Cs Z QU Z Z Z) (A1 [51] [40] Z Z (λ_=>A9 (Eh (f:=40) Z Z (B) Z Ag Z)) (BR 26 Z Z Z (AZ 27 Z Z (J (Dx KA Uf Z Z Z) (AC ⟨Z,?_⟩))))))));refine AZ 28 Z Z (V (Bc Z Z Z Z Z Z Z Kr) (AC ⟨Z,?_⟩));refine AZ 29 Z Z (AB Z Z (AC ⟨Z,?_⟩));refine Bb (A5 ?_);exact ⟨_,[40,50,51],_,A2 Z,Z,Z,by rw[Y];rfl,Z⟩
  .refine AU (AF (J (Ac Z Z (AJ (k+1) (by omega)) Z) (cl Z Z (AC ?_))));exact ⟨k+1,⟨by show k+1<=_;omega,by rw[ψ a];intro e g;rcases ν.1 g with g | g;exact t e g;rw[ξ.1 g];unfold kw;rw[w];exact kD (by have h:=A;omega)⟩,by show x.pl.length-(k+1)<x.pl.length-k;omega,AR hF [1,40,50,51] Z (Z) ⟨Z,Z,Z,Z,Z,Z,trivial⟩⟩
 .refine Aq (AD (AD ?_));have R:x.pl.find? (kw N)=none:=HS (by have e:k=x.pl.length:=(by have h:=I;omega);rw[e,kW] at t;exact t);refine AF (cl Z Z ?_);refine J (EB Z Z) (J (Cs Z G6 Z Z Z) (J (Cs Z GL Z Z Z) (J (Eh (f:=40) Z Z (s) Z BJ Z) (J (BW Z E0 Z) (cl Z Z (AC (AX (BC (α:=Nat) (λj=>⟨85,[(0,.d (pD wb 0)),(1,.d (pD (nb i) 0)),(4,(.ptr 1 0 0)),(59,(.d (.sl none (x.it.af.map AE)))),(60,(.d (AE (x.it.af.length:Int)))),(61,(.d (AE (j:Int))))],(1,[.blk 245 [.d (AE 0),.d (AE 0),.d (AE 0),.d (Am []),.d (AE 0),.d (Am []),.d (Am []),.d (Am []),.d (AE 0)]])::HW K bs (Ga nb (Bh N)) M⟩) (λj=>j<=x.it.af.length/\∀id∈x.it.af.take j,je N id=false) (λj=>x.it.af.length-j) (0) (⟨κ _,by simp⟩) (AR hF [1,40,50,51] Z Z ⟨Z,Z,Z,Z,Z,Z,trivial⟩) ?_))))))));rintro j ⟨hj0,u⟩;refine AD (AF (J (At Z Z Z) (AC (AD (A4 Z (λH=>?_) (λH=>?_))))))
  .have v:j<x.it.af.length:=BG H;refine AU (AD (AX (AD ?_)));have T:=hxa _ (ϑ v);have c:=my T;have S:(Bh N).idxOf x.it.af[j]<N.nd.length:=by unfold Bh at c⊢;rw[χ] at c;exact c
   obtain ⟨z,L⟩:∃z,N.nd[(Bh N).idxOf x.it.af[j]]? =some z:=⟨_,ω S⟩
   have U:N.nd.getD ((Bh N).idxOf x.it.af[j]) CV=z:=by rw[Ψ,L];rfl
   obtain ⟨B,_,_⟩:=h.nn _ z L;have X:=Te (nb:=nb) hw.i c;rw[nJ c] at X;refine AF (J (Al (j) Z Z (Z) (AP v) E0 Z BE Z) ?_);refine J (BZ Z Z Ag Z) (AB Z Z (AC (AD (AF (cl Z Z (J (EB Z Z) (J (Cs Z OT Z Z Z) (J (Eh (f:=40) Z Z (hwb) Z Yj Z) ?_))))))));refine EP 68 51 0 Z Z (cl Z Z (J (I4 (Ga nb (Bh N)) x.it.af[j] (.pointer none) (pV (nb ((Bh N).idxOf x.it.af[j])) 0) Z Z Z Yx I2 YF X Z) (J (EB Z Z) (J (Cs Z F6 Z Z Z) (J (Eh (f:=40) Z Z (B) Z tO Z) (J (QV Z Z) (AC (Jo Z (λG=>?_) (λG=>?_)))))))))
   .refine AD (AF (cl Z Z (J (EB Z Z) (J (Cs Z G6 Z Z Z) ?_))));refine J (Cs Z QU Z Z Z) (J (Eh (f:=40) Z Z (s) Z Ag Z) (J (Dx MI Ue Z Z Z) (cl Z Z (J (Dx KA Uf Z Z Z) (V (Bc Z Z Z Z Z Z Z Kr) (AB Z Z (AC (A5 ?_))))))));exact ⟨_,[40,50,51],_,A2 Z,Z,Z,by unfold G5;rw[R];dsimp only;rw[Jh v u (by unfold je;rw[U];simpa using G)];rfl,Z⟩
   .refine AU (AF (J (Ac Z Z (AJ (j+1) (by omega)) Z) (cl Z Z (AC ?_))));exact ⟨j+1,⟨by show j+1<=_;omega,by rw[ψ v];intro e g;rcases ν.1 g with g | g;exact u e g;rw[ξ.1 g];unfold je;rw[U];simpa using G⟩,by show x.it.af.length-(j+1)<x.it.af.length-j;omega,AR hF [1,40,50,51] Z (Z) ⟨Z,Z,Z,Z,Z,Z,trivial⟩⟩
  .refine Aq (AD (AF (J (Dx KA Uf Z Z Z) (V (Bc Z Z Z Z Z Z Z Kr) (AB Z Z (AC (A5 ?_)))))));exact ⟨_,[40,50,51],_,A2 Z,Z,Z,by unfold G5;rw[R];dsimp only;rw[HS (by have e:j=x.it.af.length:=(by have h:=H;omega);rw[e,kW] at u;exact u)];rfl,Z⟩
abbrev gz:FuncId:=230
theorem q5(h:Hd)(n:Nat):AO prog 194 [.d (jj h n)] [] λr f=>r= .fn gz [.d (.ptr (jj h n))]/\f=[]:=by
 refine Av func194 Z Z ntmps194 Z Z Z λF b=>(AD (AF (V (Ba 1 Z Z Z Z Z Z Z) ?_)));refine AB Z Z (AC (AD (AF (R6 1 1 (jj h n) [] b Z Z Z (by intro c a;simp[D.cells] at a;subst a;rfl) Z Z Z (J (ut Z Z) (AB Z Z (AC (A5 ?_))))))));exact ⟨_,[],[],A2 Z,Z,Z,Z,Z⟩
def MX(q:List Nat):Nat->List (Nat×Nat)
 | 0=> []
 | c+1=>(c,q.getD c 0)::MX q c
def iJ(nb:Nat->Nat)(e:Nat×Nat):List AV:=[.d (AE (e.1:Int)),.d (B5 (nb e.2))]
section
variable{β:Type}
theorem q6(y:Nat->Nat)(q:List Nat)(T:q.length<=100000){M:MF}{h:Hd}(j:B1 M h 176 1 (q.map λi=>B5 (y i)))(l:Nat)(H:β->Hp)(N:List Nat)(step:β->Nat×Nat->β×Bool)(g:β)(K:∀a,lZ (H a)=N)(Q:∀a,GG N (H a)=true)(I:∀a,Bg (H a) N=some (H a))(P:∀a,ek (H a) 40=some [.multi M])(A:Nn prog l (iJ y) H step g (MX q q.length)):
  AO prog gz [.d (.raw (D7 l)),.d (.ptr (jj h q.length))] (H g) λr G=>r= .tup []/\G=H (IW step g (MX q q.length)):=by
 have O:=WZ j;have x:∀a,A6 N (H a)=true:=λa=>by have h:=FA (H a);rw[K] at h;exact h
 have L:∀a,Ch N (H a)=some []:=λa=>by have h:=RL (H a);rw[K] at h;exact h
 refine Av func230 Z Z ntmps230 Z Z Z λF U=>?_;refine AD (AF (J (BZ Z Z HO Z) (J (Xv O Z S1 Z) (J (MC Z Z (Ξ _ (by omega)) Z) (AB Z Z (AC (AX (FR (α:=Nat×β) (λp=>⟨19,[(0,.d (.raw (D7 l))),(1,.d (.ptr (jj h q.length))),(3,(.d (AE ((p.1:Int)-1))))],H p.2⟩) (λp=>p.1<=q.length/\Nn prog l (iJ y) H step p.2 (MX q p.1)/\IW step p.2 (MX q p.1)=IW step g (MX q q.length)) (λp=>p.1) ((q.length,g)) (⟨Θ _,A,Z⟩) (Zm ⟨Z,Z,Z,trivial⟩) ?_))))))));rintro ⟨c,a⟩ ⟨B,u,b⟩;dsimp only at B u b⊢;refine AD (AD (AF (cl Z Z (J (EH Z Z Z) (AC (A4 Z (λC=>?_) (λC=>?_)))))))
 .obtain ⟨k,rfl⟩:∃k,c=k+1:=⟨c-1,by have h:=C;omega⟩
  refine AU (AD (AX (AD ?_)));have o:k<q.length:=by omega
  obtain ⟨S,R,w⟩:=Wb j o;have t:=Tq j w;have z:((k+1:Nat):Int)-1=(k:Int):=by omega
  rw[z];refine AF (cl Z Z (cl Z Z (J (BZ Z Z HO Z) (cl Z Z (J (Xz w (k) Z Z Z o S1 NQ Z) (J (qq (f:=40) (e:=k) (off:=0) Z (by omega) (P a) t (AP o) Z PN Z) ?_))))));rw[<-EC 0 o];refine Uu Z Z u.1 N (Fg λ_ _=>rfl) (x a) (L a) Z Z (λr G ⟨E,D⟩=>by subst E D;exact ⟨x _,Q _,Z⟩) Z λr G ⟨E,D⟩=>?_;subst E D;rw[kZ];refine J (QV Z Z) (AC (Jo Z (λv=>?_) (λv=>?_)))
  .have s:(step a (k,q.getD k 0)).2=false:=by simpa using v
   refine A5 ?_;exact ⟨_,N,_,A2 Z,I _,x _,Z,by rw[<-b];show H _=H (IW step a ((k,q.getD k 0)::MX q k));rw[Ef,υ (by rw[s];decide)]⟩
  .have s:(step a (k,q.getD k 0)).2=true:=by simpa using v
   refine AU (AF (cl Z Z (J (MC Z Z (Ξ _ (by omega)) Z) (AB Z Z (AC ?_)))));exact ⟨(k,(step a (k,q.getD k 0)).1),⟨by show k<=_;omega,u.2 s,by show IW step (step a (k,q.getD k 0)).1 (MX q k)=_;rw[<-b];show _=IW step a ((k,q.getD k 0)::MX q k);rw[Ef,ϱ s]⟩,by show k<k+1;omega,⟨Z,Z,λ_ _=>SW.get (l:=[(0,_),(1,_),(3,_)]) ⟨Z,Z,Z,trivial⟩⟩⟩
 .refine Aq ?_;exact ⟨_,N,_,A2 Z,I _,x _,Z,by rw[<-b];have e:c=0:=(by have h:=C;omega);rw[e];rfl⟩
end
variable{M:MF}
def kV(N:ji)(i:Nat):Bool:=(N.nd.getD i CV).on
def Ra(N:ji)(x:Nd):Option I1:=if x.on=true then G5 N x else none
def W5(N:ji)(y:Po):Option I1:=if Q2 y y.sum=true then (y.q.reverse.find? (kV N)).map λi=>⟨(N.nd.getD i CV).it.id,0,y.r,-1⟩ else none
def Dl(N:ji):Option I1:=match N.nd.findSome? (Ra N) with
 | some e=>some e
 | none=>N.po.findSome? (W5 N)
theorem Dq{g c:Type}{f:g->Option c}:∀{l:List g} {k:Nat} (i:k<l.length) {b:c},(∀x∈l.take k,f x=none)->f l[k]=some b->l.findSome? f=some b
 | a::l,0,_,b,_,h=>by simp at h;rw[rF,h]
 | a::l,k+1,i,b,j,h=>by
  have s:f a=none:=j a (by simp);have o:=Dq (l:=l) (k:=k) (by simpa using i) (λx r=>j x (by simp[r])) (by simpa using h);rw[rF,s];exact o
theorem Dp{a b:Type}{f:a->Option b}{l:List a}(h:∀x∈l,f x=none):l.findSome? f=none:=List.findSome?_eq_none_iff.2 h
def su:Bool->LoopState
 | true=> .done
 | false=> .ready
def wQ:Bool->Option Code
 | true=>some .ret
 | false=>none
def Ia(N:ji)(_st:Option Nat)(e:Nat×Nat):Option Nat×Bool:=if kV N e.2=true then (some e.2,false) else (none,true)
theorem gx(N:ji)(q:List Nat):∀n,n<=q.length->IW (Ia N) none (MX q n)=((q.take n).reverse.find? (kV N))
 | 0,_=>rfl
 | n+1,h=>by
  have a:n<q.length:=by omega
  show IW (Ia N) none ((n,q.getD n 0)::MX q n)=_;rw[Ef,ψ a,List.reverse_append,List.reverse_singleton,List.singleton_append,List.find?_cons,EC 0 a];unfold Ia;dsimp only
  cases ho:kV N q[n] with
  | true=>rfl
  | false=>exact gx N q n (by omega)
theorem ZT{P:Program}{l:Nat}{c:Nat->Nat}{H:Option Nat->Hp}(N:ji)(q:List Nat)(g:∀k (s:k<q.length),Gs P l (iJ c (k,q[k])) (H none) λv i=>v= .d (.raw (.bool (!kV N q[k])))/\i=H (if kV N q[k]=true then some q[k] else none)):∀n,n<=q.length->Nn P l (iJ c) H (Ia N) none (MX q n)
 | 0,_=>trivial
 | n+1,h=>by
  have f:n<q.length:=by omega
  have j:=g n f;show Nn P l (iJ c) H (Ia N) none ((n,q.getD n 0)::MX q n);rw[EC 0 f];refine ⟨j.mono λv i ⟨r,o⟩=>⟨by rw[r];unfold Ia;cases kV N q[n]<;>rfl,by rw[o];unfold Ia;cases kV N q[n]<;>rfl⟩,λa=>?_⟩
  have b:kV N q[n]=false:=by
   cases ho:kV N q[n] with
   | false=>rfl
   | true=>unfold Ia at a;dsimp only at a;rw[ho] at a;cases a
  have:(Ia N none (n,q[n])).1=none:=by unfold Ia;dsimp only;rw[b];rfl
  rw[this];exact ZT N q g n (by omega)
abbrev uV(e:I1):AM:= .blk 245 [.d (AE e.id),.d (AE e.re),.d (AE e.r.k),.d (Am e.r.acc.o),.d (AE e.r.acc.k),.d (Am e.r.acc.a),.d (Am e.r.f),.d (Am e.r.t),.d (AE e.by_)]
def ww(N:ji)(y:Po)(o:Option Nat):I1:=match o with
 | none=>Ns
 | some i=>⟨(N.nd.getD i CV).it.id,0,y.r,-1⟩
abbrev xT(N:ji)(y:Po)(pbk mv:Nat)(bs:Option (List Nat×Nat))(L:List (Int×Value))(M:MF)(o:Option Nat):Hp:=[(1,[uV (ww N y o)]),(2,[.blk 4 [.d (Aj o.isSome)]]),(4,[.blk 186 [.d (B5 pbk)]]),(40,[.multi M]),(50,[.map bs (Bi AE M7 L)]),(51,[.addr 50 0 (.map (some mv))])]
theorem tY{wb H:Nat}{nb pb:Nat->Nat}{N:ji}(O:Option (List Nat×Nat))(h:Cb wb H nb pb N M)(hw:lV N)(hs:UI N.po 1000000000000000000):
  AO prog 139 [.d (pD wb 0)] (HW H O (Ga nb (Bh N)) M) λr H'=>r= .d (wy (Dl N))/\H'=HW H O (Ga nb (Bh N)) M:=by
 have hwb:=h.w;have T:B1 M N.nh 176 1 ((List.range N.nd.length).map λi=>B5 (nb i)):=h.rs.1 .n;have S:B1 M N.mh 186 1 ((List.range N.po.length).map λj=>B5 (pb j)):=h.rs.1 .m;have hnz:=WZ T;have hpz:=WZ S;rw[kj] at hnz hpz;have hnl:=hw.n
 obtain ⟨L,hL⟩:∃L,Ga nb (Bh N)=L:=⟨_,Z⟩
 have I:=λi x G=>pE (i:=i) (x:=x) O h hw G;rw[hL] at I⊢;refine QM func139 Z Z ntmps139 Z Z Z λF K hFl=>(AD (AF (V (CF 1 KA Z Z Z Z) (V (CF 2 y5 Z Z Z Z) (AC (AD (AD (AF ?_))))))));refine cl Z Z (J (EB Z Z) (J (Cs Z Jj Z Z Z) (J (Eh (f:=40) Z Z (hwb) Z HO Z) (J (Xv hnz Z S1 Z) (cl Z Z (AC (AX (BC (α:=Nat) (λk=>⟨74,[(0,.d (pD wb 0)),(2,(.ptr 1 0 0)),(3,(.ptr 2 0 0)),(15,(.d (jj N.nh N.nd.length))),(16,(.d (AE (N.nd.length:Int)))),(17,(.d (AE (k:Int))))],(1,[uV Ns])::(2,[.blk 4 [.d (Aj false)]])::HW H O L M⟩) (λk=>k<=N.nd.length/\∀x∈N.nd.take k,Ra N x=none) (λk=>N.nd.length-k) (0) (⟨κ _,by simp⟩) (AR K [1,2,40,50,51] Z Z ⟨Z,Z,Z,Z,Z,Z,trivial⟩) ?_))))))));rintro k ⟨hk0,w⟩;refine AD (AF (J (At Z Z Z) (AC (AD (A4 Z (λY=>?_) (λY=>?_))))))
 .have g:k<N.nd.length:=BG Y;refine AU (AD (AX (AD ?_)))
  obtain ⟨x,G⟩:∃x,N.nd[k]? =some x:=⟨_,ω g⟩
  have R:N.nd[k]=x:=by rw[ω g] at G;injection G
  obtain ⟨E,_,_⟩:=h.nn k x G;obtain ⟨rb,rc,u⟩:=Wb T (j:=k) (by rw[kj];exact g);have t:=Tq T u;refine AF (J (Xz u (k) Z Z Z g S1 NQ Z) (J (qq (f:=40) (e:=k) (off:=0) Z (by omega) Z (t) ((by rw[ς,m7 g];rfl)) Z PN Z) ?_));refine AB Z Z (AC (AD ?_));refine AD (AF (cl Z Z (J (EB Z Z) (J (Cs Z F6 Z Z Z) (J (Eh (f:=40) Z Z (E) Z tO Z) (J (QV Z Z) (AC (Jo Z (λX=>?_) (λX=>?_)))))))))
  .have c:Ra N x=none:=by unfold Ra;rw[υ (by simpa using X)]
   refine Aq ?_
   try have c:Ra N x=none:=by unfold Ra;split<;>first | exact hin | rfl
   refine AF (J (Ac Z Z (AJ (k+1) (by omega)) Z) (cl Z Z (AC ?_)));exact ⟨k+1,⟨by show k+1<=_;omega,by rw[ψ g];intro e a;rcases ν.1 a with a | a;exact w e a;rw[ξ.1 a,R];exact c⟩,by show N.nd.length-(k+1)<N.nd.length-k;omega,AR K [1,2,40,50,51] Z (Z) ⟨Z,Z,Z,Z,Z,Z,trivial⟩⟩
  .refine AU (AD (AF (cl Z Z (cl Z Z (V (F8 (I k x G) Z [40,50,51] ⟨Z,Z,Z,trivial⟩ Z Z Z Z Z Z Z Z Z) ?_)))));refine cl Z Z (J (DI Z Z Z) (J (DI Z Z Z) (V (CF 3 KA Z Z Z Z) (V (Bc Z Z Z Z Z Z Z Kr) (AB Z Z (AC (AD (AF ?_))))))))
   cases hin:G5 N x
   .refine cl Z Z (AC (Cr Z (Z) (AU ?_)))
    try have c:Ra N x=none:=by unfold Ra;split<;>first | exact hin | rfl
    refine AF (J (Ac Z Z (AJ (k+1) (by omega)) Z) (cl Z Z (AC ?_)));exact ⟨k+1,⟨by show k+1<=_;omega,by rw[ψ g];intro e a;rcases ν.1 a with a | a;exact w e a;rw[ξ.1 a,R];exact c⟩,by show N.nd.length-(k+1)<N.nd.length-k;omega,AR K [1,2,40,50,51] Z (Z) ⟨Z,Z,Z,Z,Z,Z,trivial⟩⟩
   .refine cl Z Z ?_;refine AC (CM Z (Z) (AD (AF (J (Ar Z Z r8 Z Z Z) (V (Bc Z Z Z Z Z Z Z Kr) (V (Bc Z Z Z Z Z Z Z vc) (AC (A5 ?_))))))));exact ⟨_,[40,50,51],_,A2 Z,Z,Z,by unfold Dl;rw[Dq g w (by rw[R];unfold Ra;rw[ϱ (by simpa using X)];exact hin)];rfl,Z⟩
 .refine Aq (AD (AD ?_));have hnn:N.nd.findSome? (Ra N)=none:=Dp (by have e:k=N.nd.length:=(by have h:=Y;omega);rw[e,kW] at w;exact w);refine AF ?_;refine cl Z Z (J (EB Z Z) (J (Cs Z Lh Z Z Z) (J (Eh (f:=40) Z Z (hwb) Z Yk Z) (J (Xv hpz Z underlying177 Z) (cl Z Z (AC (AX (BC (α:=Nat) (λj=>⟨74,[(2,(.ptr 1 0 0)),(3,(.ptr 2 0 0)),(38,(.d (jj N.mh N.po.length))),(39,(.d (AE (N.po.length:Int)))),(40,(.d (AE (j:Int))))],(1,[uV Ns])::(2,[.blk 4 [.d (Aj false)]])::HW H O L M⟩) (λj=>j<=N.po.length/\∀y∈N.po.take j,W5 N y=none) (λj=>N.po.length-j) (0) (⟨κ _,by simp⟩) (AR K [1,2,40,50,51] Z Z ⟨Z,Z,Z,Z,Z,trivial⟩) ?_))))))));rintro j ⟨hj0,z⟩;refine AD (AF (J (At Z Z Z) (AC (AD (A4 Z (λW=>?_) (λW=>?_))))))
  .have s:j<N.po.length:=BG W;refine AU (AD (AX (AD ?_)))
   obtain ⟨y,hy⟩:∃y,N.po[j]? =some y:=⟨_,ω s⟩
   have P:N.po[j]=y:=by rw[ω s] at hy;injection hy
   have C:=ϖ hy;obtain ⟨Q,hyq⟩:=h.pp j y hy;obtain ⟨rb,rc,u⟩:=Wb S (j:=j) (by rw[kj];exact s);have t:=Tq S u;have hys:=hs y C;have hov:=NY h hy y.sum (hw.rm y C) (by omega);have hql:=hw.ql y C;refine AF (J (Xz u (j) Z Z Z s underlying177 dE Z) (J (qq (f:=40) (e:=j) (off:=0) Z (by omega) Z (t) ((by rw[ς,m7 s];rfl)) Z cj Z) ?_));refine V (CF 4 vV Z Z Z Z) (V (Bc Z Z Z Z Z Z Z dE) (AC (AD (AD (Bm [[],[],[1],[1,2],[1,2,3],rg 5,rg 6] mixed Z (BY ?_))))));refine A1 [9] [4] Z Z (λ_=>A9 (AQ Z Z Z cj Z)) (A1 [9] [4] Z Z (λ_=>A9 (AQ Z Z Z cj Z)) (AK [45] Z (EB Z Z) (AK [46] Z (Cs Z Lc Z Z Z) (A1 [47] [40] Z Z (λ_=>A9 (Eh (f:=40) Z Z (Q) Z FK Z)) (BR 5 Z Z Z (AZ 6 Z Z (V (F8 hov Z [40] ⟨Z,trivial⟩ Z Z Z Z Z Z Z Z Z) (AC ⟨Z,?_⟩))))))));refine AZ 7 Z Z ?_
   cases hovy:Q2 y y.sum
   .refine J (QV Z Z) (AC ⟨Z,?_⟩);refine Bb (CM Z (Z) (Aq ?_));have b:W5 N y=none:=by unfold W5;first | (rw[υ (by rw[hovy];decide)]) | (rw[ϱ hovy,<-ho];rfl)
    refine AF (J (Ac Z Z (AJ (j+1) (by omega)) Z) (cl Z Z (AC ?_)));exact ⟨j+1,⟨by show j+1<=_;omega,by rw[ψ s];intro e a;rcases ν.1 a with a | a;exact z e a;rw[ξ.1 a,P];exact b⟩,by show N.po.length-(j+1)<N.po.length-j;omega,AR K [1,2,40,50,51] Z (Z) ⟨Z,Z,Z,Z,Z,trivial⟩⟩
   .refine J (QV Z Z) (AC ⟨Z,?_⟩);refine Bb (Cr Z (Z) (AU ?_));refine AD (AF (J (AQ Z Z Z cj Z) (J (EB Z Z) (J (Cs Z IB Z Z Z) (J (Eh (f:=40) Z Z (Q) Z HO Z) (V (F8 (q5 y.qh y.q.length) Z [] trivial Z Z Z Z Z Z Z Z Z) (AC (AX ?_))))))));refine jP [2,3,9,38,39,40,55] Z ?_;refine Ze (γ:=Option Nat) hFl 900 Z Z Z Z Z [1,2,4,40,50,51] (CHr:=xT N y (pb j) H O L M none) (λo=>o=y.q.reverse.find? (kV N)) (λo=>xT N y (pb j) H O L M o) (λo=>su o.isSome) (λo=>wQ o.isSome) ⟨Z,Z,Z,Z,Z,Z,trivial⟩ Z Z Z (λ_=>rfl) (λ_=>rfl) Z (λo _=>by cases o<;>simp[su]) (λ_ _=>⟨Z,Z⟩) [1,2,4,40,50,51] K Z Z (λ_ _=>rfl) (λl A B hA hB=>?_) (λo ho=>?_)
    .refine (q6 nb y.q (by omega) hyq l (λo:Option Nat=>(900,[.loop ⟨l,74,[(2,.ptr 1 0 0),(3,.ptr 2 0 0),(9,.ptr 4 0 0),(38,.d (jj N.mh N.po.length)),(39,.d (AE (N.po.length:Int))),(40,.d (AE (j:Int))),(55,.fn gz [.d (.ptr (jj y.qh y.q.length))])],su o.isSome,wQ o.isSome, #[56,57],A,B⟩])::xT N y (pb j) H O L M o) [900,1,2,4,40,50,51] (Ia N) none (λ_=>rfl) (λ_=>rfl) (λ_=>rfl) (λ_=>rfl) ?_).mono (λr H' ⟨e1,e2⟩=>⟨e1,_,Z,by rw[e2,gx N y.q y.q.length (Θ _),kW]⟩);refine ZT N y.q (λk2 hk2=>?_) y.q.length (Θ _);have hni:y.q[k2]<N.nd.length:=h.q y C _ (ϑ hk2)
     obtain ⟨x,G⟩:∃x,N.nd[y.q[k2]]? =some x:=⟨_,ω hni⟩
     obtain ⟨E,_,_⟩:=h.nn _ x G;have hgx:N.nd.getD y.q[k2] CV=x:=by rw[Ψ,G];rfl
     have hon:kV N y.q[k2]=x.on:=by unfold kV;rw[hgx]
     refine Tx (lf:=900) Z Z Z Z λF K hr=>(CK.code hA (AF (AB Z Z (AC (⟨Z,_,_,Z,Z,Z,Z,?_⟩)))));refine CK.code hB ?_;refine AX (AD (AF (cl Z Z (J (EB Z Z) (J (Cs Z F6 Z Z Z) (J (Eh (f:=40) Z Z (E) Z tO Z) (AC (Jo Z (λU=>?_) (λU=>?_)))))))))
     .refine AD (Bm [[],[0],[0,1],[0,1,2],[0,1,2,3],[],[5],[5,6],[5,6,7],rg 9,rg 10,rg 11] mixed Z (BY (A7 11 Z Z (AK [62] Z (EB Z Z) (AK [63] Z (Cs Z G6 Z Z Z) (AK [64] Z (Cs Z QU Z Z Z) ?_))))));refine A1 [65] [40] Z Z (λ_=>A9 (Eh (f:=40) Z Z (E) Z Ag Z)) (A1 [9] [4] Z Z (λ_=>A9 (AQ Z Z Z cj Z)) (AK [67] Z (EB Z Z) (AK [68] Z (Cs Z OS Z Z Z) (A1 [69] [40] Z Z (λ_=>A9 (Dh (f:=40) Z Z (Q) Cw Z Z (by simp[D.one]) Z)) (BR 9 Z Z Z (AZ 10 Z Z (J (Dx KA Uf Z Z Z) (AC ⟨Z,?_⟩))))))));refine AZ 11 Z Z (V (Bc Z Z Z Z Z Z Z Kr) (AC ⟨Z,?_⟩));refine AZ 12 Z Z (V (Bc Z Z Z Z Z Z Z vc) (AC ⟨Z,?_⟩));refine Bb (A5 ?_);have v:kV N y.q[k2]=true:=by rw[hon];simpa using U
      exact ⟨some .ret,_,_,[900,1,2,4,40,50,51],_,Z,Z,Z,Z,Z,Z,by rw[v];rfl,by rw[ϱ v];simp only[xT,ww,hgx];rfl⟩
     .refine AU ?_;have v:kV N y.q[k2]=false:=by rw[hon];simpa using U
      exact ⟨none,_,_,[900,1,2,4,40,50,51],_,Z,Z,Z,Z,Z,Z,by rw[v];rfl,by rw[υ (by rw[v];decide)];rfl⟩
    .rcases o with _ | i0
     .have b:W5 N y=none:=by unfold W5;first | (rw[υ (by rw[hovy];decide)]) | (rw[ϱ hovy,<-ho];rfl)
      refine AF (J (Ac Z Z (AJ (j+1) (by omega)) Z) (cl Z Z (AC ?_)));exact ⟨j+1,⟨by show j+1<=_;omega,by rw[ψ s];intro e a;rcases ν.1 a with a | a;exact z e a;rw[ξ.1 a,P];exact b⟩,by show N.po.length-(j+1)<N.po.length-j;omega,AR K [1,2,40,50,51] Z (Z) ⟨Z,Z,Z,Z,Z,trivial⟩⟩
     .show CK _ _ .ret _ _;refine A5 ?_;exact ⟨_,[40,50,51],_,A2 Z,Z,Z,by unfold Dl;rw[hnn];dsimp only;rw[Dq s z (by rw[P];unfold W5;rw[ϱ hovy,<-ho];rfl)];rfl,Z⟩
  .refine Aq (AD (AF (J (Dx KA Uf Z Z Z) (V (Bc Z Z Z Z Z Z Z Kr) (V (Bc Z Z Z Z Z Z Z vc) (AC (A5 ?_)))))));exact ⟨_,[40,50,51],_,A2 Z,Z,Z,by unfold Dl;rw[hnn];dsimp only;rw[Dp (by have e:j=N.po.length:=(by have h:=W;omega);rw[e,kW] at z;exact z)];rfl,Z⟩
theorem SR.splitH{F:Fr}{s:AS}{L:Nat->Nat->Value}{k:Act}{w:World}(l:SR F s L k w)(t g f:Nat){T:TypeId}{A m:Nat}{h:Hd}{I:List D}{u:List (Nat×AV)}{c hp':Hp}(C:Nat.beq g f=false)(B:get s.env t=some (.d (jj h m)))(Y:m=I.length)(hM:ek s.hp f=some [.multi M])(j:B1 M h T A I)(hE:Ab g s.env=some u)(J:Aa g s.hp=some c)(R:ek c g=none)(E:Bv c f (Bq M h)=some hp'):
  ∃v,SR F ⟨s.n,(t,.own g 0 m)::u,(g,[.rowD T A I])::hp'⟩ (upd L g 0 v) k w:=by
 match h,B,j,E with
 | some (b,cap),B,j,E=>exact ⟨_,l.splitR t g f (cap:=cap) (b:=b) C B Y hM j.2 hE J R E⟩
 | none,B,j,E=>
  have S:I=[]:=j;subst S Y;have hgf:g≠f:=mH C;refine ⟨.slice none 0 0,?_⟩
  have V:hp'=c:=by
   have P:∀(H z:Hp),ek H f=some [.multi M]->Bv H f M=some z->z=H:=by
    intro H
    induction H with
    | nil=>intro z h;cases h
    | cons p r ih=>
     grind[ek,Bv]
   obtain ⟨a1,a2⟩:=BF J
   have W:ek c f=some [.multi M]:=by
    have X:∀(H z:Hp),C8 (Bt g) H=some z->ek H f=some [.multi M]->ek z f=some [.multi M]:=by
     intro H
     induction H with
     | nil=>intro z _ h;cases h
     | cons p r ih=>
      grind[C8,Ep,ek,C7]
    grind
   exact P c hp' W E
  rw[V]
  have h1:SR F ⟨s.n,(t,.d (.sl (some true) []))::s.env,s.hp⟩ L k w:=⟨l.size,l.defs,λN a y=>by
   rcases NL y with ⟨rfl,rfl⟩ | ⟨_,y⟩
   .have j:=l.env t _ B
    generalize k.tmps.getD t undef=x at j⊢
    cases j with
    | d h=>cases h with
     | raw _=>exact .d (.sl 0 (λb G=>by cases G;rfl) (λ_=>rfl) Z (Θ _) (κ _) (λx U=>by cases U) (λh=>absurd Z h) (λb o G=>by cases G))
   .exact l.env N a y,l.heap⟩
  obtain ⟨k1,k2⟩:=BF J
  have Q:∀i,dd s.hp g i=none:=λi=>by
   cases hq:dd s.hp g i with
   | none=>rfl
   | some o=>
    obtain ⟨o2,O,_⟩:=k2 _ _ _ hq;unfold dd at O;rw[R] at O;cases O
  have K:=l.set g 0 (.rowD T A []) (.slice none 0 0) (hp':=(g,[.rowD T A []])::c) hE J (λf' i=>by
   by_cases e:g=f'
   .subst e;simp only[dd,ek,l6,m6,true_and,Mp (o:= .rowD T A []) Z,R,Option.bind_none]
    cases i<;>simp
   .simp only[dd,ek,I3 e]
    rw[υ (λhh=>e hh.1.symm)]) (λt cs e=>by rw[Q] at e;cases e) (λb G=>by cases G) Z Z Z (Θ _) (λ_ _ _=>rfl) (λ_=>⟨[],World.ownsRow_nil w 0 T A,⟨by simp,by simp,λi x U=>by simp at U⟩,by simp⟩)
  refine ⟨K.size,K.defs,λN a y=>?_,K.heap⟩;rcases NL y with ⟨rfl,rfl⟩ | ⟨_,y⟩
  .have j:=l.env t _ B
   generalize k.tmps.getD t undef=x at j⊢
   cases j with
   | d h=>cases h with | raw _=>exact .own Qg (Θ _)
  .exact K.env N a y
section
variable{P:Program}{F:Fr}{Q:Exit->AS->Prop}{c:Code}{ops:Array Oper}{l:List Oper}{n:Nat}{env env1 env':List (Nat×AV)}{hp hp1 hp2 hp3:Hp}
theorem Ha{o:Oper}(t g f:Nat){M:MF}{T:TypeId}{y m:Nat}{h:Hd}{r:List D}{b:Hp}{x:AS}(C:B1 M h T y r)(s:Nat.beq g f=false)(A:get env t=some (.d (jj h m)))(E:m=r.length)(H:ek hp f=some [.multi M])(J:Ab g env=some env')(I:Aa g hp=some hp1)(z:ek hp1 g=none)(G:Bv hp1 f (Bq M h)=some b)(N:AH P F o ⟨n,(t,.own g 0 m)::env',(g,[.rowD T y r])::b⟩ x (Bt g)):AH P F o ⟨n,env,hp⟩ x (Bt g):=λR u w B=>by
 obtain ⟨v,O⟩:=B.splitH t g f s A E H C J I z G;exact qr (λa S ⟨k,L,K⟩=>⟨k,L,λf i j=>(K f i j).trans (O3 λe=>Tl j e.1)⟩) (N _ u w O)
end
variable{a c:Nat->Nat}{N:ji}{M:MF}{f g i h:Nat}{x:Nd}{j:List D}{t:TypeId}{k o s:Nat}{y:Po}{u:Au}{w:MF}
theorem Cb.row{N':ji}(i:Cb f g c a N M)(k:RI){w0 w1:jm}(B:Ct c a N k=w0)(A:Ct c a N' k=w1)(y:∀r,r≠k->Ct c a N' r=Ct c a N r)(u:Bq M w0.h h=none)(z:w1.h=some (h,o))(w:w1.xs.length<=o):
  FX (Bf (Bq M w0.h) h (.row w1.t w1.k o w1.xs)) (Ct c a N')/\∀(s:Nat) (t:TypeId) (l:List D),M s=some (.cells t l)->Bf (Bq M w0.h) h (.row w1.t w1.k o w1.xs) s=some (.cells t l):=by
 subst B A;refine ⟨i.rs.upd k y u z w,λs t l v=>lj u v λj x=>?_⟩;have:=i.rs.blk x
 grind
theorem Cb.putNd(h:Cb f g c a N M){l:Nd}(C:N.nd[i]? =some x)(E:∀(F:Nat) (t:TypeId) (s:List D),M F=some (.cells t s)->w F=some (.cells t s))(G:FX w (Ct c a {N with nd:=N.nd.set i l}))(J:(∀e∈l.ef,e.1<N.po.length)/\∀e∈l.pl,e.1<N.po.length):
  Cb f g c a {N with nd:=N.nd.set i l} (Bf w (c i) (W8 l)):=by
 have K:=h.n i x C;have B:=(φ.1 C).1
 have u:∀(b:Nat) (t:TypeId) (s:List D),t≠184->M b=some (.cells t s)->Bf w (c i) (W8 l) b=some (.cells t s):=λb t s O P=>by
  grind[Gt]
 refine ⟨λj z r=>?_,λj y v=>u _ _ _ (by decide) (h.p j y v),G.cells (E _ _ _ K),?_,λj k I H=>h.ni j k (by simpa using I) (by simpa using H),h.pi,λz r=>?_,λy v=>?_⟩
 .have o:(N.nd.set i l)[j]? =some z:=r
  clear r
  have A:j<N.nd.length:=by have:=(φ.1 o).1;rw[kq] at this;exact this
  rw[nF] at o
  split at o
  .grind[Fj]
  .rename_i e
   rw[Gt]
   .exact E _ _ _ (h.n j z o)
   .intro L;exact e (h.ni j i A B L).symm
 .show Bf w (c i) (W8 l) f=some (.cells _ [jj N.nh (N.nd.set i l).length,jj N.mh N.po.length,_]);rw[kq];exact u _ _ _ (by decide) h.w
 .rcases nC r with r | rfl
  .exact h.e z r
  .exact J
 .have:=h.q y v
  simpa using this
theorem Cb.putPo(h:Cb f g c a N M){r:Po}(E:N.po[k]? =some y)(F:∀(G:Nat) (t:TypeId) (u:List D),M G=some (.cells t u)->w G=some (.cells t u))(H:FX w (Ct c a {N with po:=N.po.set k r}))(I:∀i∈r.q,i<N.nd.length):
  Cb f g c a {N with po:=N.po.set k r} (Bf w (a k) (W6 r)):=by
 have L:=h.p k y E;have B:=(φ.1 E).1
 have v:∀(b:Nat) (t:TypeId) (u:List D),t≠190->M b=some (.cells t u)->Bf w (a k) (W6 r) b=some (.cells t u):=λb t u P Q=>by
  grind[Gt]
 refine ⟨λi x A=>v _ _ _ (by decide) (h.n i x A),λi z s=>?_,H.cells (F _ _ _ L),?_,h.ni,λi l K J=>h.pi i l (by simpa using K) (by simpa using J),λx A=>?_,λz s=>?_⟩
 .have o:(N.po.set k r)[i]? =some z:=s
  clear s
  have C:i<N.po.length:=by have:=(φ.1 o).1;rw[kq] at this;exact this
  rw[nF] at o
  split at o
  .grind[Fj]
  .rename_i e
   rw[Gt]
   .exact F _ _ _ (h.p i z o)
   .intro O;exact e (h.pi i k C B O).symm
 .show Bf w (a k) (W6 r) f=some (.cells _ [jj N.nh N.nd.length,jj N.mh (N.po.set k r).length,_]);rw[kq];exact v _ _ _ (by decide) h.w
 .have:=h.e x A
  simpa using this
 .rcases nC s with s | rfl
  .exact h.q z s
  .exact I
abbrev uW:TypeId:=188
abbrev tJ:TypeId:=254
abbrev en:TypeId:=176
abbrev Y9:TypeId:=186
def GP(x:Nd)(b cap:Nat)(e:Nat×Int):Nd:={x with eh:=some (b,cap),ef:=x.ef++ [e]}
def JO(x:Nd)(b cap:Nat)(e:Nat×Nat):Nd:={x with ph:=some (b,cap),pl:=x.pl++ [e]}
def MA(y:Po)(b cap:Nat)(i:Nat):Po:={y with qh:=some (b,cap),q:=y.q++ [i]}
theorem Cb.addE(l:Cb f g c a N M)(t:N.nd[i]? =some x)(e:Nat×Int)(y:e.1<N.po.length)(A:Bq M x.eh h=none)(w:((x.ef++ [e]).map (iK a)).length<=o):
  Cb f g c a {N with nd:=N.nd.set i (GP x h o e)} (Bf (Bf (Bq M x.eh) h (.row uW 2 o ((x.ef++ [e]).map (iK a)))) (c i) (W8 (GP x h o e))):=by
 have s:=(φ.1 t).1
 obtain ⟨C,B⟩:=l.row (N':={N with nd:=N.nd.set i (GP x h o e)}) (.e i) (w0:=⟨x.eh,uW,2,x.ef.map (iK a)⟩) (w1:=⟨some (h,o),uW,2,(x.ef++ [e]).map (iK a)⟩)
  (by show (⟨(N.nd.getD i CV).eh,_,_,(N.nd.getD i CV).ef.map _⟩:jm)=_;rw[Hw t])
  (by show (⟨((N.nd.set i (GP x h o e)).getD i CV).eh,_,_,((N.nd.set i (GP x h o e)).getD i CV).ef.map _⟩:jm)=_;rw[FC s,ϱ rfl];rfl)
  (λr v=>by
   cases r with
   | q j=>rfl
   | m=>rfl
   | n=>show (⟨_,_,_,(List.range (N.nd.set i (GP x h o e)).length).map _⟩:jm)=_;rw[kq];rfl
   | e k=>
    show (⟨((N.nd.set i (GP x h o e)).getD k CV).eh,_,_,((N.nd.set i (GP x h o e)).getD k CV).ef.map _⟩:jm)=⟨(N.nd.getD k CV).eh,_,_,(N.nd.getD k CV).ef.map _⟩
    rw[FC s,υ (λe=>v (by rw[e]))]
   | p k=>
    show (⟨((N.nd.set i (GP x h o e)).getD k CV).ph,_,_,((N.nd.set i (GP x h o e)).getD k CV).pl.map _⟩:jm)=⟨(N.nd.getD k CV).ph,_,_,(N.nd.getD k CV).pl.map _⟩
    rw[FC s,Rs t k CV]
    split<;>rfl) A Z w
 refine l.putNd t B C ⟨λz u=>?_,(l.e x (ϖ t)).2⟩;rcases ν.1 u with u | u
 .exact (l.e x (ϖ t)).1 z u
 .rw[ξ.1 u];exact y
theorem Cb.addP(l:Cb f g c a N M)(t:N.nd[i]? =some x)(e:Nat×Nat)(y:e.1<N.po.length)(A:Bq M x.ph h=none)(w:((x.pl++ [e]).map (nL a)).length<=o):
  Cb f g c a {N with nd:=N.nd.set i (JO x h o e)} (Bf (Bf (Bq M x.ph) h (.row tJ 2 o ((x.pl++ [e]).map (nL a)))) (c i) (W8 (JO x h o e))):=by
 have s:=(φ.1 t).1
 obtain ⟨C,B⟩:=l.row (N':={N with nd:=N.nd.set i (JO x h o e)}) (.p i) (w0:=⟨x.ph,tJ,2,x.pl.map (nL a)⟩) (w1:=⟨some (h,o),tJ,2,(x.pl++ [e]).map (nL a)⟩)
  (by show (⟨(N.nd.getD i CV).ph,_,_,(N.nd.getD i CV).pl.map _⟩:jm)=_;rw[Hw t])
  (by show (⟨((N.nd.set i (JO x h o e)).getD i CV).ph,_,_,((N.nd.set i (JO x h o e)).getD i CV).pl.map _⟩:jm)=_;rw[FC s,ϱ rfl];rfl)
  (λr v=>by
   cases r with
   | q j=>rfl
   | m=>rfl
   | n=>show (⟨_,_,_,(List.range (N.nd.set i (JO x h o e)).length).map _⟩:jm)=_;rw[kq];rfl
   | p k=>
    show (⟨((N.nd.set i (JO x h o e)).getD k CV).ph,_,_,((N.nd.set i (JO x h o e)).getD k CV).pl.map _⟩:jm)=⟨(N.nd.getD k CV).ph,_,_,(N.nd.getD k CV).pl.map _⟩
    rw[FC s,υ (λe=>v (by rw[e]))]
   | e k=>
    show (⟨((N.nd.set i (JO x h o e)).getD k CV).eh,_,_,((N.nd.set i (JO x h o e)).getD k CV).ef.map _⟩:jm)=⟨(N.nd.getD k CV).eh,_,_,(N.nd.getD k CV).ef.map _⟩
    rw[FC s,Rs t k CV]
    split<;>rfl) A Z w
 refine l.putNd t B C ⟨(l.e x (ϖ t)).1,λz u=>?_⟩;rcases ν.1 u with u | u
 .exact (l.e x (ϖ t)).2 z u
 .rw[ξ.1 u];exact y
theorem Cb.addQ(s:Cb f g c a N M)(v:N.po[k]? =some y){i:Nat}(A:i<N.nd.length)(B:Bq M y.qh h=none)(x:((y.q++ [i]).map λi=>B5 (c i)).length<=o):
  Cb f g c a {N with po:=N.po.set k (MA y h o i)} (Bf (Bf (Bq M y.qh) h (.row en 1 o ((y.q++ [i]).map λi=>B5 (c i)))) (a k) (W6 (MA y h o i))):=by
 have u:=(φ.1 v).1
 obtain ⟨D,C⟩:=s.row (N':={N with po:=N.po.set k (MA y h o i)}) (.q k) (w0:=⟨y.qh,en,1,y.q.map λi=>B5 (c i)⟩) (w1:=⟨some (h,o),en,1,(y.q++ [i]).map λi=>B5 (c i)⟩)
  (by show (⟨(N.po.getD k Ce).qh,_,_,(N.po.getD k Ce).q.map _⟩:jm)=_;rw[Hw v])
  (by show (⟨((N.po.set k (MA y h o i)).getD k Ce).qh,_,_,((N.po.set k (MA y h o i)).getD k Ce).q.map _⟩:jm)=_;rw[FC u,ϱ rfl];rfl)
  (λr w=>by
   cases r with
   | e l=>rfl
   | p l=>rfl
   | n=>rfl
   | m=>show (⟨_,_,_,(List.range (N.po.set k (MA y h o i)).length).map _⟩:jm)=_;rw[kq];rfl
   | q l=>
    show (⟨((N.po.set k (MA y h o i)).getD l Ce).qh,_,_,((N.po.set k (MA y h o i)).getD l Ce).q.map _⟩:jm)=⟨(N.po.getD l Ce).qh,_,_,(N.po.getD l Ce).q.map _⟩
    rw[FC u,υ (λe=>w (by rw[e]))]) B Z x
 refine s.putPo v C D λz t=>?_;rcases ν.1 t with t | t
 .exact s.q y (ϖ v) z t
 .rw[ξ.1 t];exact A
def FP(x:Nd):Nd:={x with eh:=none,ph:=none}
def Cv(y:Po):Po:={y with qh:=none}
def BH(N:ji):ji:=⟨N.nd.map FP,N.po.map Cv,none,none⟩
def tw(x:Nd)(j:Nat)(n:Nat)(a:Int):Nd:={x with ef:=x.ef++ [(j,a)],pl:=if a<0 then x.pl++ [(j,n)] else x.pl}
def tv(y:Po)(i:Nat)(a:Int):Po:={y with sum:=y.sum+a,q:=if a<0 then y.q++ [i] else y.q}
theorem Cb.keepE(k:Cb f g c a N M)(r:N.nd[i]? =some x)(y:Bq M x.eh h=none)(o:M s=some (.cells t j)):Bf (Bq M x.eh) h u s=some (.cells t j):=
 lj y o λl w=>by have:=Tq (k.nn i x r).2.1 w;rw[o] at this;cases this
theorem Cb.keepP(k:Cb f g c a N M)(r:N.nd[i]? =some x)(y:Bq M x.ph h=none)(o:M s=some (.cells t j)):Bf (Bq M x.ph) h u s=some (.cells t j):=
 lj y o λl w=>by have:=Tq (k.nn i x r).2.2 w;rw[o] at this;cases this
theorem Cb.keepQ(i:Cb f g c a N M)(r:N.po[k]? =some y)(x:Bq M y.qh h=none)(o:M s=some (.cells t j)):Bf (Bq M y.qh) h u s=some (.cells t j):=
 lj x o λl w=>by have:=Tq (i.pp k y r).2 w;rw[o] at this;cases this
theorem tr{Y mv:Nat}{L v:Nat->Nat}{N:ji}{M:MF}(h:Cb Y mv L v N M){i j:Nat}{x:Nd}{y:Po}(u:N.nd[i]? =some x)(O:N.po[j]? =some y)(a:Int)(ha: -100000000000000000<=a/\a<=100000000000000000)(hs: -1000000000000000000<=y.sum/\y.sum<=1000000000000000000)(he:x.ef.length<=100000)(hp:x.pl.length<=100000)(hq:y.q.length<=100000):
  AO prog 144 [.d (pD (L i) 0),.d (pD (v j) 0),.d (AE a)] (HN M) λr H'=>r= .tup []/\∃K M',H'=HN M'/\Cb Y mv L v K M'/\K.nh=N.nh/\K.mh=N.mh/\(∃X,K.nd=N.nd.set i X/\FP X=FP (tw x j y.q.length a))/\∃y',K.po=N.po.set j y'/\Cv y'=Cv (tv y i a):=by
 have A:=h.n i x u;have P:=(h.nn i x u).2.1;have hrp:=(h.nn i x u).2.2;have D:=(φ.1 u).1;have t:=(φ.1 O).1;have Q:=WZ (h.pp j y O).2;refine Av func144 Z Z ntmps144 Z Z Z λF W=>?_;refine AD (AF (cl Z Z (cl Z Z (J (EB Z Z) (J (Cs Z Lg Z Z Z) (J (Eh (f:=40) Z Z (A) Z Yi Z) (cl Z Z (cl Z Z ?_))))))));refine J (Dx c8 wK Z Z Z) (V (CB 1 r6 Z Z Z Z Z Z Z Z) (V (Ha 10 60 40 P Z Z (by simp) Z Z Z Z Z (DQ (emb:=iK v) x.ef [(j,a)] Z Z Z Z Z Z Z Z r6 (by simp only[η];omega) Z Z Z Z)) (Fd 15 60 40 W Z Z Z (by simp) (by simp) Z Z Z Z Z Z Z (λ_ _=>rfl) λb1 c1 H T=>(J (EB Z Z) (J (Cs Z Lg Z Z Z) (V (Qh (f:=40) Z Z Z Z (h.keepE u H A) ((by show _<9;omega)) Z vj) (AC (AD ?_))))))));have I:=h.addE u (j,a) t H T;have w:=I.p j y O;refine AF (cl Z Z (J (EB Z Z) ?_));refine J (Cs Z Lc Z Z Z) (J (Eh (f:=40) Z Z (w) Z FK Z) (cl Z Z (J (Ac Z Z (Ξ _ (by omega)) Z) (J (EB Z Z) (J (Cs Z Lc Z Z Z) (V (Qh (f:=40) Z Z Z Z (w) ((by show _<10;omega)) Z x5) (AC (AD ?_))))))));have b:=I.setPo (y':={y with sum:=y.sum+a}) O Z Z;have k:(N.nd.set i (GP x b1 c1 (j,a)))[i]? =some (GP x b1 c1 (j,a)):=List.getElem?_set_self D;have c:(N.po.set j {y with sum:=y.sum+a})[j]? =some {y with sum:=y.sum+a}:=List.getElem?_set_self t;have s:=b.n i _ k;have z:=b.p j _ c;have C:=(b.nn i _ k).2.2;refine AF (cl Z Z (J (At Z Z Z) (AC (A4 Z (λg=>?_) (λg=>?_)))))
 .refine AD (Bm [[],[],[1],[1,2],[1,2,3],[],[],[6],[6,7],[6,7,8],[6,7,8,9],[5,6,7,8,9,10],[5,6,7,8,9,10,11],[1,2,3,4,5,6,7,8,9,10,11,12],rg 14,rg 15,rg 16] mixed Z (BY (A7 0 Z Z ?_)));refine A7 0 Z Z (AK [29] Z (EB Z Z) (AK [30] Z (Cs Z Ld Z Z Z) (A1 [31] [40] Z Z (λ_=>A9 (Eh (f:=40) Z Z (s) Z Yh Z)) (A7 1 Z Z (A7 1 Z Z (AK [34] Z (EB Z Z) (AK [35] Z (Cs Z IB Z Z Z) (A1 [36] [40] Z Z (λ_=>A9 (Eh (f:=40) Z Z (z) Z HO Z)) ?_))))))));refine AK [37] Z (Xv Q Z S1 Z) (AK [33,38] Z (Dx YE wF Z Z Z) (Cq [39] [2] [(40,_)] Z Z (λ_=>Cd (CB 2 rZ Z Z Z Z Z Z Z Z)) (.inr ⟨40,_,Z,Z,Z,Z,Z⟩) Z Z Z Z Z (Cq [32,40] [61,40,2] [(41,_)] Z Z (λ_=>Cd (Ha 32 61 40 C Z Z (by simp[GP]) Z Z Z Z Z (DQ (emb:=nL v) x.pl [(j,y.q.length)] Z Z Z Z Z Z Z Z rZ (by simp only[η];omega) Z Z Z Z))) (.inr ⟨41,_,Z,Z,Z,Z,Z⟩) Z Z Z Z Z (BR 14 Z Z Z (AZ 15 Z Z (Fd 41 61 40 W Z Z Z (by simp) (by simp) Z Z Z Z Z Z Z (λ_ _=>rfl) λb2 c2 G S=>(J (EB Z Z) (AC ⟨Z,?_⟩))))))));refine AZ 16 Z Z (J (Cs Z Ld Z Z Z) (AC ⟨Z,?_⟩));refine AZ 17 Z Z (V (Qh (f:=40) Z Z Z Z (b.keepP k G s) ((by show _<9;omega)) Z vi) (AC ⟨Z,?_⟩));refine Bb ?_;have l:=b.addP k (j,y.q.length) (by show j<(N.po.set j _).length;rw[kq];exact t) G S;have o:=l.p j _ c;have B:=(l.pp j _ c).2;refine AF (cl Z Z (cl Z Z (J (EB Z Z) (J (Cs Z IB Z Z Z) ?_))));refine J (Eh (f:=40) Z Z (o) Z HO Z) (cl Z Z (V (CB 3 Y3 Z Z Z Z Z Z Z Z) (V (Ha 48 62 40 B Z Z (by simp) Z Z Z Z Z (DQ (emb:=λi=>B5 (L i)) y.q [i] Z Z Z Z Z Z Z Z Y3 (by simp only[η];omega) Z Z Z Z)) (Fd 51 62 40 W Z Z Z (by simp) (by simp) Z Z Z Z Z Z Z (λ_ _=>rfl) λb3 c3 E R=>(J (EB Z Z) (J (Cs Z IB Z Z Z) (V (Qh (f:=40) Z Z Z Z (l.keepQ c E o) ((by show _<10;omega)) Z rR) (AC ?_))))))));have U:=l.addQ c (i:=i) (by show i<((N.nd.set i _).set i _).length;rw[kq,kq];exact D) E R;exact ⟨_,[40],_,A2 Z,Z,Z,Z,_,_,Z,U,Z,Z,⟨_,List.set_set _,by unfold FP JO GP tw;simp[g]⟩,⟨_,List.set_set _,by unfold Cv MA tv;simp[g]⟩⟩
 .refine AU ?_;exact ⟨_,[40],_,A2 Z,Z,Z,Z,_,_,Z,b,Z,Z,⟨_,Z,by unfold FP GP tw;simp[g]⟩,⟨_,Z,by unfold Cv tv;simp[g]⟩⟩
end Go.Proofs.YteifpcnphnhaoaaGreat
