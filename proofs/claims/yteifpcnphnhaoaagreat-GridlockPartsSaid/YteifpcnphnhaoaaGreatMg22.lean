import Derived.Test.YteifpcnphnhaoaaGreatMg21
open Go.Proofs.Tryz
namespace Go.Proofs.YteifpcnphnhaoaaGreat
open Go.RowKit
variable {M:MF}
set_option maxRecDepth 100000
def onN (N:Net) (i:Nat):Bool:=(N.nd.getD i CT).on
def Xt (N:Net) (x:Nd):Option Pw:=if x.on=true then IJ N x else none
def ZZ (N:Net) (y:Po):Option Pw:=if Sm y y.sum=true then (y.q.reverse.find? (onN N)).map λi=>⟨(N.nd.getD i CT).it.id,0,y.r,-1⟩ else none
def Fq (N:Net):Option Pw:=match N.nd.findSome? (Xt N) with
 | some e=>some e
 | none=>N.po.findSome? (ZZ N)
theorem Il {d c:Type} {f:d ->Option c}:∀{l:List d} {k:Nat} (e:k<l.length) {b:c},(∀x∈l.take k,f x=none) ->f l[k]=some b ->l.findSome? f=some b
 | a::l,0,_,b,_,h=>by simp at h;rw [List.findSome?_cons,h]
 | a::l,k+1,e,b,g,h=>by
  have m:f a=none:=g a (by simp);have i:=Il (l:=l) (k:=k) (by simpa using e) (λx j=>g x (by simp [j])) (by simpa using h);rw [List.findSome?_cons,m];exact i
theorem NH {a b:Type} {f:a ->Option b} {l:List a} (h:∀x∈l,f x=none):l.findSome? f=none:=List.findSome?_eq_none_iff.2 h
def stRO:Bool ->LoopState
 | true=> .done
 | false=> .ready
def pdRO:Bool ->Option Code
 | true=>some .ret
 | false=>none
def IY (N:Net) (_st:Option Nat) (e:Nat×Nat):Option Nat×Bool:=if onN N e.2=true then (some e.2,false) else (none,true)
theorem eX (N:Net) (q:List Nat):∀n,n<=q.length ->IO (IY N) none (Ly q n)=((q.take n).reverse.find? (onN N))
 | 0,_=>rfl
 | n+1,h=>by
  have a:n<q.length:=by omega
  show IO (IY N) none ((n,q.getD n 0)::Ly q n)=_;rw [E2,ψ a,List.reverse_append,List.reverse_singleton,List.singleton_append,List.find?_cons,FF 0 a];unfold IY;dsimp only
  cases ho:onN N q[n] with
  | true=>rfl
  | false=>exact eX N q n (by omega)
theorem YR {P:Program} {l:Nat} {c:Nat ->Nat} {H:Option Nat ->Hp} (N:Net) (q:List Nat) (f:∀k (o:k<q.length),Gk P l (er c (k,q[k])) (H none) λv g=>v= .d (.raw (.bool (!onN N q[k])))/\g=H (if onN N q[k]=true then some q[k] else none)):∀n,n<=q.length ->NT P l (er c) H (IY N) none (Ly q n)
 | 0,_=>trivial
 | n+1,h=>by
  have e:n<q.length:=by omega
  have i:=f n e;show NT P l (er c) H (IY N) none ((n,q.getD n 0)::Ly q n);rw [FF 0 e];refine ⟨i.mono λv g ⟨m,j⟩=>⟨by rw [m];unfold IY;cases onN N q[n]<;>rfl,by rw [j];unfold IY;cases onN N q[n]<;>rfl⟩,λa=>?_⟩
  have b:onN N q[n]=false:=by
   cases ho:onN N q[n] with
   | false=>rfl
   | true=>unfold IY at a;dsimp only at a;rw [ho] at a;cases a
  have:(IY N none (n,q[n])).1=none:=by unfold IY;dsimp only;rw [b];rfl
  rw [this];exact YR N q f n (by omega)
abbrev excB (e:Pw):AN:= .blk 245 [.d (AF e.id),.d (AF e.re),.d (AF e.r.k),.d (Aq e.r.acc.o),.d (AF e.r.acc.k),.d (Aq e.r.acc.a),.d (Aq e.r.f),.d (Aq e.r.t),.d (AF e.by_)]
def fndE (N:Net) (y:Po) (o:Option Nat):Pw:=match o with
 | none=>exc0
 | some i=>⟨(N.nd.getD i CT).it.id,0,y.r,-1⟩
abbrev hBk (N:Net) (y:Po) (pbk mv:Nat) (bs:Option (List Nat×Nat)) (L:List (Int×Value)) (M:MF) (o:Option Nat):Hp:=[(1,[excB (fndE N y o)]),(2,[.blk 4 [.d (Am o.isSome)]]),(4,[.blk 186 [.d (B3 pbk)]]),(40,[.multi M]),(50,[.map bs (B5 AF MD L)]),(51,[.addr 50 0 (.map (some mv))])]
set_option maxHeartbeats 2000000 in
theorem next_c {wb E:Nat} {X pb:Nat ->Nat} {N:Net} (I:Option (List Nat×Nat)) (h:C3 wb E X pb N M) (hw:NetW N) (hs:TJ N.po 1000000000000000000):
  AT prog 139 [.d (pD wb 0)] (HW E I (G3 X (B9 N)) M) λr H'=>r= .d (excR (Fq N))/\H'=HW E I (G3 X (B9 N)) M:=by
 have hwb:=h.w;have R:B2 M N.nh 176 1 ((List.range N.nd.length).map λi=>B3 (X i)):=h.rs.1 .n;have Q:B2 M N.mh 186 1 ((List.range N.po.length).map λj=>B3 (pb j)):=h.rs.1 .m;have hnz:=V2 R;have hpz:=V2 Q;rw [ωo] at hnz hpz;have hnl:=hw.n
 obtain ⟨L,hL⟩:∃L,G3 X (B9 N)=L:=⟨_,Z⟩
 have G:=λi x C=>inadm_c (i:=i) (x:=x) I h hw C;rw [hL] at G⊢;refine Ph func139 Z Z ntmps139 Z Z Z λF H hFl=>(AD (AE (V (CA 1 Jg Z Z Z Z) (V (CA 2 zl4 Z Z Z Z) (AC (AD (AD (AE ?_))))))));refine goMv Z Z (J (Dk Z Z) (J (Cg Z JX Z Z Z) (J (EG (f:=40) Z Z (hwb) Z HC Z) (J (Wz hnz Z underlying175 Z) (goMv Z Z (AC (A2 (BO (α:=Nat) (λk=>⟨74,[(0,.d (pD wb 0)),(2,(.ptr 1 0 0)),(3,(.ptr 2 0 0)),(15,(.d (hdr N.nh N.nd.length))),(16,(.d (AF (N.nd.length:Int)))),(17,(.d (AF (k:Int))))],(1,[excB exc0])::(2,[.blk 4 [.d (Am false)]])::HW E I L M⟩) (λk=>k<=N.nd.length/\∀x∈N.nd.take k,Xt N x=none) (λk=>N.nd.length - k) (0) (⟨ζ _,by simp⟩) (AU H [1,2,40,50,51] Z Z ⟨Z,Z,Z,Z,Z,Z,trivial⟩) ?_))))))));rintro k ⟨hk0,u⟩;refine AD (AE (J (Az Z Z Z) (AC (AD (A7 Z (λW=>?_) (λW=>?_))))))
 .have g:k<N.nd.length:=BR W;refine AX (AD (A2 (AD ?_)))
  obtain ⟨x,C⟩:∃x,N.nd[k]? =some x:=⟨_,ω g⟩
  have P:N.nd[k]=x:=by rw [ω g] at C;injection C
  obtain ⟨z,_,_⟩:=h.nn k x C;obtain ⟨rb,rc,s⟩:=Vd R (j:=k) (by rw [ωo];exact g);have q:=Sp R s;refine AE (J (XC s (k) Z Z Z g underlying175 Mu Z) (J (ZcL (f:=40) (e:=k) (off:=0) Z (by omega) Z (q) ((by rw [ν,ψt g];rfl)) Z Oj Z) ?_));refine AB Z Z (AC (AD ?_));refine AD (AE (goMv Z Z (J (Dk Z Z) (J (Cg Z FR Z Z Z) (J (EG (f:=40) Z Z (z) Z on4 Z) (J (NQ Z Z) (AC (JC Z (λU=>?_) (λU=>?_)))))))))
  .have c:Xt N x=none:=by unfold Xt;rw [η (by simpa using U)]
   refine Ar ?_
   try have c:Xt N x=none:=by unfold Xt;split<;>first | exact hin | rfl
   refine AE (J (Ah Z Z (AK (k+1) (by omega)) Z) (goMv Z Z (AC ?_)));exact ⟨k+1,⟨by show k+1<=_;omega,by rw [ψ g];intro e a;rcases ϖ.1 a with a | a;exact u e a;rw [κ.1 a,P];exact c⟩,by show N.nd.length - (k+1)<N.nd.length - k;omega,AU H [1,2,40,50,51] Z (Z) ⟨Z,Z,Z,Z,Z,Z,trivial⟩⟩
  .refine AX (AD (AE (goMv Z Z (goMv Z Z (V (FG (G k x C) Z [40,50,51] ⟨Z,Z,Z,trivial⟩ Z Z Z Z Z Z Z Z Z) ?_)))));refine goMv Z Z (J (Di Z Z Z) (J (Di Z Z Z) (V (CA 3 Jg Z Z Z Z) (V (B4 Z Z Z Z Z Z Z KZ) (AB Z Z (AC (AD (AE ?_))))))))
   cases hin:IJ N x
   .refine goMv Z Z (AC (Cu Z (Z) (AX ?_)))
    try have c:Xt N x=none:=by unfold Xt;split<;>first | exact hin | rfl
    refine AE (J (Ah Z Z (AK (k+1) (by omega)) Z) (goMv Z Z (AC ?_)));exact ⟨k+1,⟨by show k+1<=_;omega,by rw [ψ g];intro e a;rcases ϖ.1 a with a | a;exact u e a;rw [κ.1 a,P];exact c⟩,by show N.nd.length - (k+1)<N.nd.length - k;omega,AU H [1,2,40,50,51] Z (Z) ⟨Z,Z,Z,Z,Z,Z,trivial⟩⟩
   .refine goMv Z Z ?_;refine AC (Bz Z (Z) (AD (AE (J (BA Z Z rw245 Z Z Z) (V (B4 Z Z Z Z Z Z Z KZ) (V (B4 Z Z Z Z Z Z Z sz4) (AC (AZ ?_))))))));exact ⟨_,[40,50,51],_,AY Z,Z,Z,by unfold Fq;rw [Il g u (by rw [P];unfold Xt;rw [ς (by simpa using U)];exact hin)];rfl,Z⟩
 .refine Ar (AD (AD ?_));have hnn:N.nd.findSome? (Xt N)=none:=NH (by have e:k=N.nd.length:=(by have h:=W;omega);rw [e,ωl] at u;exact u);refine AE ?_;refine goMv Z Z (J (Dk Z Z) (J (Cg Z LU Z Z Z) (J (EG (f:=40) Z Z (hwb) Z Xi Z) (J (Wz hpz Z underlying177 Z) (goMv Z Z (AC (A2 (BO (α:=Nat) (λj=>⟨74,[(2,(.ptr 1 0 0)),(3,(.ptr 2 0 0)),(38,(.d (hdr N.mh N.po.length))),(39,(.d (AF (N.po.length:Int)))),(40,(.d (AF (j:Int))))],(1,[excB exc0])::(2,[.blk 4 [.d (Am false)]])::HW E I L M⟩) (λj=>j<=N.po.length/\∀y∈N.po.take j,ZZ N y=none) (λj=>N.po.length - j) (0) (⟨ζ _,by simp⟩) (AU H [1,2,40,50,51] Z Z ⟨Z,Z,Z,Z,Z,trivial⟩) ?_))))))));rintro j ⟨hj0,v⟩;refine AD (AE (J (Az Z Z Z) (AC (AD (A7 Z (λT=>?_) (λT=>?_))))))
  .have p:j<N.po.length:=BR T;refine AX (AD (A2 (AD ?_)))
   obtain ⟨y,hy⟩:∃y,N.po[j]? =some y:=⟨_,ω p⟩
   have K:N.po[j]=y:=by rw [ω p] at hy;injection hy
   have w:=ξ hy;obtain ⟨O,hyq⟩:=h.pp j y hy;obtain ⟨rb,rc,s⟩:=Vd Q (j:=j) (by rw [ωo];exact p);have q:=Sp Q s;have hys:=hs y w;have hov:=NA h hy y.sum (hw.rm y w) (by omega);have hql:=hw.ql y w;refine AE (J (XC s (j) Z Z Z p underlying177 bW Z) (J (ZcL (f:=40) (e:=j) (off:=0) Z (by omega) Z (q) ((by rw [ν,ψt p];rfl)) Z FD Z) ?_));refine V (CA 4 zl186 Z Z Z Z) (V (B4 Z Z Z Z Z Z Z bW) (AC (AD (AD (CD [[],[],[1],[1,2],[1,2,3],rg 5,rg 6] mixed Z (Bt ?_))))));refine As [9] [4] Z Z (λ_=>A8 (AQ Z Z Z FD Z)) (As [9] [4] Z Z (λ_=>A8 (AQ Z Z Z FD Z)) (AP [45] Z (Dk Z Z) (AP [46] Z (Cg Z LR Z Z Z) (As [47] [40] Z Z (λ_=>A8 (EG (f:=40) Z Z (O) Z Fn Z)) (Bk 5 Z Z Z (Ab 6 Z Z (V (FG hov Z [40] ⟨Z,trivial⟩ Z Z Z Z Z Z Z Z Z) (AC ⟨Z,?_⟩))))))));refine Ab 7 Z Z ?_
   cases hovy:Sm y y.sum
   .refine J (NQ Z Z) (AC ⟨Z,?_⟩);refine Bx (Bz Z (Z) (Ar ?_));have b:ZZ N y=none:=by unfold ZZ;first | (rw [η (by rw [hovy];decide)]) | (rw [ς hovy,<-ho];rfl)
    refine AE (J (Ah Z Z (AK (j+1) (by omega)) Z) (goMv Z Z (AC ?_)));exact ⟨j+1,⟨by show j+1<=_;omega,by rw [ψ p];intro e a;rcases ϖ.1 a with a | a;exact v e a;rw [κ.1 a,K];exact b⟩,by show N.po.length - (j+1)<N.po.length - j;omega,AU H [1,2,40,50,51] Z (Z) ⟨Z,Z,Z,Z,Z,trivial⟩⟩
   .refine J (NQ Z Z) (AC ⟨Z,?_⟩);refine Bx (Cu Z (Z) (AX ?_));refine AD (AE (J (AQ Z Z Z FD Z) (J (Dk Z Z) (J (Cg Z Hu Z Z Z) (J (EG (f:=40) Z Z (O) Z HC Z) (V (FG (backF_c y.qh y.q.length) Z [] trivial Z Z Z Z Z Z Z Z Z) (AC (A2 ?_))))))));refine fx [2,3,9,38,39,40,55] Z ?_;refine Y8 (γ:=Option Nat) hFl 900 Z Z Z Z Z [1,2,4,40,50,51] (CHr:=hBk N y (pb j) E I L M none) (λo=>o=y.q.reverse.find? (onN N)) (λo=>hBk N y (pb j) E I L M o) (λo=>stRO o.isSome) (λo=>pdRO o.isSome) ⟨Z,Z,Z,Z,Z,Z,trivial⟩ Z Z Z (λ_=>rfl) (λ_=>rfl) Z (λo _=>by cases o<;>simp [stRO]) (λ_ _=>⟨Z,Z⟩) [1,2,4,40,50,51] H Z Z (λ_ _=>rfl) (λl A B hA hB=>?_) (λo ho=>?_)
    .refine (back1_c X y.q (by omega) hyq l (λo:Option Nat=>(900,[.loop ⟨l,74,[(2,.ptr 1 0 0),(3,.ptr 2 0 0),(9,.ptr 4 0 0),(38,.d (hdr N.mh N.po.length)),(39,.d (AF (N.po.length:Int))),(40,.d (AF (j:Int))),(55,.fn eZ [.d (.ptr (hdr y.qh y.q.length))])],stRO o.isSome,pdRO o.isSome, #[56,57],A,B⟩])::hBk N y (pb j) E I L M o) [900,1,2,4,40,50,51] (IY N) none (λ_=>rfl) (λ_=>rfl) (λ_=>rfl) (λ_=>rfl) ?_).mono (λr H' ⟨e1,e2⟩=>⟨e1,_,Z,by rw [e2,eX N y.q y.q.length (Γ _),ωl]⟩);refine YR N y.q (λY hk2=>?_) y.q.length (Γ _);have hni:y.q[Y]<N.nd.length:=h.q y w _ (ϑ hk2)
     obtain ⟨x,C⟩:∃x,N.nd[y.q[Y]]? =some x:=⟨_,ω hni⟩
     obtain ⟨z,_,_⟩:=h.nn _ x C;have hgx:N.nd.getD y.q[Y] CT=x:=by rw [Φ,C];rfl
     have hon:onN N y.q[Y]=x.on:=by unfold onN;rw [hgx]
     refine Sw (lf:=900) Z Z Z Z λF H hr=>(CG.code hA (AE (AB Z Z (AC (⟨Z,_,_,Z,Z,Z,Z,?_⟩)))));refine CG.code hB ?_;refine A2 (AD (AE (goMv Z Z (J (Dk Z Z) (J (Cg Z FR Z Z Z) (J (EG (f:=40) Z Z (z) Z on4 Z) (AC (JC Z (λS=>?_) (λS=>?_)))))))))
     .refine AD (CD [[],[0],[0,1],[0,1,2],[0,1,2,3],[],[5],[5,6],[5,6,7],rg 9,rg 10,rg 11] mixed Z (Bt (Ak 11 Z Z (AP [62] Z (Dk Z Z) (AP [63] Z (Cg Z G1 Z Z Z) (AP [64] Z (Cg Z OG Z Z Z) ?_))))));refine As [65] [40] Z Z (λ_=>A8 (EG (f:=40) Z Z (z) Z Ai Z)) (As [9] [4] Z Z (λ_=>A8 (AQ Z Z Z FD Z)) (AP [67] Z (Dk Z Z) (AP [68] Z (Cg Z Nu Z Z Z) (As [69] [40] Z Z (λ_=>A8 (D7 (f:=40) Z Z (O) Cc Z Z (by simp [D.one]) Z)) (Bk 9 Z Z Z (Ab 10 Z Z (J (EI Jg Tl Z Z Z) (AC ⟨Z,?_⟩))))))));refine Ab 11 Z Z (V (B4 Z Z Z Z Z Z Z KZ) (AC ⟨Z,?_⟩));refine Ab 12 Z Z (V (B4 Z Z Z Z Z Z Z sz4) (AC ⟨Z,?_⟩));refine Bx (AZ ?_);have t:onN N y.q[Y]=true:=by rw [hon];simpa using S
      exact ⟨some .ret,_,_,[900,1,2,4,40,50,51],_,Z,Z,Z,Z,Z,Z,by rw [t];rfl,by rw [ς t];simp only [hBk,fndE,hgx];rfl⟩
     .refine AX ?_;have t:onN N y.q[Y]=false:=by rw [hon];simpa using S
      exact ⟨none,_,_,[900,1,2,4,40,50,51],_,Z,Z,Z,Z,Z,Z,by rw [t];rfl,by rw [η (by rw [t];decide)];rfl⟩
    .rcases o with _ | i0
     .have b:ZZ N y=none:=by unfold ZZ;first | (rw [η (by rw [hovy];decide)]) | (rw [ς hovy,<-ho];rfl)
      refine AE (J (Ah Z Z (AK (j+1) (by omega)) Z) (goMv Z Z (AC ?_)));exact ⟨j+1,⟨by show j+1<=_;omega,by rw [ψ p];intro e a;rcases ϖ.1 a with a | a;exact v e a;rw [κ.1 a,K];exact b⟩,by show N.po.length - (j+1)<N.po.length - j;omega,AU H [1,2,40,50,51] Z (Z) ⟨Z,Z,Z,Z,Z,trivial⟩⟩
     .show CG _ _ .ret _ _;refine AZ ?_;exact ⟨_,[40,50,51],_,AY Z,Z,Z,by unfold Fq;rw [hnn];dsimp only;rw [Il p v (by rw [K];unfold ZZ;rw [ς hovy,<-ho];rfl)];rfl,Z⟩
  .refine Ar (AD (AE (J (EI Jg Tl Z Z Z) (V (B4 Z Z Z Z Z Z Z KZ) (V (B4 Z Z Z Z Z Z Z sz4) (AC (AZ ?_)))))));exact ⟨_,[40,50,51],_,AY Z,Z,Z,by unfold Fq;rw [hnn];dsimp only;rw [NH (by have e:j=N.po.length:=(by have h:=T;omega);rw [e,ωl] at v;exact v)];rfl,Z⟩
theorem SR.splitH {F:Fr} {s:AS} {J:Nat ->Nat ->Value} {k:Act} {w:World} (l:SR F s J k w) (t g f:Nat) {T:TypeId} {y m:Nat} {h:Hd} {E:List D} {n:List (Nat×AV)} {c hp':Hp} (A:Nat.beq g f=false)
  (z:get s.env t=some (.d (hdr h m))) (W:m=E.length) (hM:hfam s.hp f=some [.multi M]) (j:B2 M h T y E) (X:Ac g s.env=some n) (G:Aa g s.hp=some c) (P:hfam c g=none) (B:Bp c f (Bj M h)=some hp'):
  ∃v,SR F ⟨s.n,(t,.own g 0 m)::n,(g,[.rowD T y E])::hp'⟩ (upd J g 0 v) k w:=by
 match h,z,j,B with
 | some (b,cap),z,j,B=>exact ⟨_,l.splitR t g f (cap:=cap) (b:=b) A z W hM j.2 X G P B⟩
 | none,z,j,B=>
  have Q:E=[]:=j;subst Q W;have hgf:g≠f:=ωx A;refine ⟨.slice none 0 0,?_⟩
  have S:hp'=c:=by
   have N:∀(H u:Hp),hfam H f=some [.multi M] ->Bp H f M=some u ->u=H:=by
    intro H
    induction H with
    | nil=>intro u h;cases h
    | cons p r ih=>
     grind [hfam,Bp]
   obtain ⟨a1,a2⟩:=BG G
   have U:hfam c f=some [.multi M]:=by
    have V:∀(H u:Hp),CV (Bn g) H=some u ->hfam H f=some [.multi M] ->hfam u f=some [.multi M]:=by
     intro H
     induction H with
     | nil=>intro u _ h;cases h
     | cons p r ih=>
      grind [CV,Ec,hfam,CU]
    grind
   exact N c hp' U B
  rw [S]
  have h1:SR F ⟨s.n,(t,.d (.sl (some true) []))::s.env,s.hp⟩ J k w:=⟨l.size,l.defs,λK a q=>by
   rcases Mp q with ⟨rfl,rfl⟩ | ⟨_,q⟩
   .have j:=l.env t _ z
    generalize k.tmps.getD t undef=x at j⊢
    cases j with
    | d h=>cases h with
     | raw _=>exact .d (.sl 0 (λb C=>by cases C;rfl) (λ_=>rfl) Z (Γ _) (ζ _) (λx R=>by cases R) (λh=>absurd Z h) (λb o C=>by cases C))
   .exact l.env K a q,l.heap⟩
  obtain ⟨k1,Y⟩:=BG G
  have O:∀i,hget s.hp g i=none:=λi=>by
   cases hq:hget s.hp g i with
   | none=>rfl
   | some o=>
    obtain ⟨o2,L,_⟩:=Y _ _ _ hq;unfold hget at L;rw [P] at L;cases L
  have I:=l.set g 0 (.rowD T y []) (.slice none 0 0) (hp':=(g,[.rowD T y []])::c) X G (λf' i=>by
   by_cases e:g=f'
   .subst e;simp only [hget,hfam,ψw,χk,true_and,MZ (o:= .rowD T y []) Z,P,Option.bind_none]
    cases i<;>simp
   .simp only [hget,hfam,IP e]
    rw [η (λhh=>e hh.1.symm)]) (λt cs e=>by rw [O] at e;cases e) (λb C=>nomatch C) Z Z Z (Γ _) (λ_ _ _=>rfl) (λ_=>⟨[],World.ownsRow_nil w 0 T y,⟨by simp,by simp,λi x R=>by simp at R⟩,by simp⟩)
  refine ⟨I.size,I.defs,λK a q=>?_,I.heap⟩;rcases Mp q with ⟨rfl,rfl⟩ | ⟨_,q⟩
  .have j:=l.env t _ z
   generalize k.tmps.getD t undef=x at j⊢
   cases j with
   | d h=>cases h with | raw _=>exact .own QS (Γ _)
  .exact I.env K a q
section
variable {P:Program} {F:Fr} {Q:Exit ->AS ->Prop} {c:Code} {ops:Array Oper} {l:List Oper} {n:Nat} {env env1 env':List (Nat×AV)} {hp hp1 hp2 hp3:Hp}
theorem H4 {o:Oper} (t g f:Nat) {M:MF} {T:TypeId} {u m:Nat} {h:Hd} {p:List D} {b:Hp} {s:AS} (A:B2 M h T u p) (q:Nat.beq g f=false) (y:get env t=some (.d (hdr h m))) (B:m=p.length) (E:hfam hp f=some [.multi M]) (H:Ac g env=some env') (G:Aa g hp=some hp1) (x:hfam hp1 g=none) (C:Bp hp1 f (Bj M h)=some b)
  (K:AG P F o ⟨n,(t,.own g 0 m)::env',(g,[.rowD T u p])::b⟩ s (Bn g)):AG P F o ⟨n,env,hp⟩ s (Bn g):=λN r w z=>by
 obtain ⟨v,L⟩:=z.splitH t g f q y B E A H G x C;exact ZcJ (λa O ⟨k,J,I⟩=>⟨k,J,λf i j=>(I f i j).trans (OF λe=>Sf j e.1)⟩) (K _ r w L)
end
variable {a c:Nat ->Nat} {N:Net} {M:MF} {d e i f:Nat} {x:Nd} {g:List D} {t:TypeId} {j h k:Nat} {y:Po} {m:Ap} {n:MF}
theorem C3.row {N':Net} (g:C3 d e a c N M) (j:RI) {w0 w1:RowM} (v:Ch a c N j=w0) (u:Ch a c N' j=w1) (q:∀r,r≠j ->Ch a c N' r=Ch a c N r) (m:Bj M w0.h f=none) (s:w1.h=some (f,h)) (o:w1.xs.length<=h):
  FH (B6 (Bj M w0.h) f (.row w1.t w1.k h w1.xs)) (Ch a c N')/\∀(l:Nat) (t:TypeId) (k:List D),M l=some (.cells t k) ->B6 (Bj M w0.h) f (.row w1.t w1.k h w1.xs) l=some (.cells t k):=by
 subst v u;refine ⟨g.rs.upd j q m s o,λl t k n=>keepM m n λi p=>?_⟩;have:=g.rs.blk p
 grind
theorem C3.putNd (h:C3 d e a c N M) {g:Nd} (u:N.nd[i]? =some x) (v:∀(w:Nat) (t:TypeId) (o:List D),M w=some (.cells t o) ->n w=some (.cells t o)) (A:FH n (Ch a c {N with nd:=N.nd.set i g})) (E:(∀f∈g.ef,f.1<N.po.length)/\∀f∈g.pl,f.1<N.po.length):
  C3 d e a c {N with nd:=N.nd.set i g} (B6 n (a i) (V8 g)):=by
 have F:=h.n i x u;have s:=(φ.1 u).1
 have p:∀(b:Nat) (t:TypeId) (o:List D),t≠184 ->M b=some (.cells t o) ->B6 n (a i) (V8 g) b=some (.cells t o):=λb t o H I=>by
  grind [IB]
 refine ⟨λj z m=>?_,λj y q=>p _ _ _ (by decide) (h.p j y q),A.cells (v _ _ _ F),?_,λj k C B=>h.ni j k (by simpa using C) (by simpa using B),h.pi,λz m=>?_,λy q=>?_⟩
 .have l:(N.nd.set i g)[j]? =some z:=m
  clear m
  have r:j<N.nd.length:=by have:=(φ.1 l).1;rw [ωr] at this;exact this
  rw [χw] at l
  split at l
  .grind [GF]
  .rename_i f
   rw [IB]
   .exact v _ _ _ (h.n j z l)
   .intro G;exact f (h.ni j i r s G).symm
 .show B6 n (a i) (V8 g) d=some (.cells _ [hdr N.nh (N.nd.set i g).length,hdr N.mh N.po.length,_]);rw [ωr];exact p _ _ _ (by decide) h.w
 .rcases ψs m with m | rfl
  .exact h.e z m
  .exact E
 .have:=h.q y q
  simpa using this
theorem C3.putPo (h:C3 d e a c N M) {l:Po} (u:N.po[j]? =some y) (v:∀(w:Nat) (t:TypeId) (o:List D),M w=some (.cells t o) ->n w=some (.cells t o)) (A:FH n (Ch a c {N with po:=N.po.set j l})) (B:∀i∈l.q,i<N.nd.length):
  C3 d e a c {N with po:=N.po.set j l} (B6 n (c j) (V7 l)):=by
 have F:=h.p j y u;have r:=(φ.1 u).1
 have p:∀(b:Nat) (t:TypeId) (o:List D),t≠190 ->M b=some (.cells t o) ->B6 n (c j) (V7 l) b=some (.cells t o):=λb t o H I=>by
  grind [IB]
 refine ⟨λi x q=>p _ _ _ (by decide) (h.n i x q),λi z m=>?_,A.cells (v _ _ _ F),?_,h.ni,λi k E C=>h.pi i k (by simpa using E) (by simpa using C),λx q=>?_,λz m=>?_⟩
 .have g:(N.po.set j l)[i]? =some z:=m
  clear m
  have s:i<N.po.length:=by have:=(φ.1 g).1;rw [ωr] at this;exact this
  rw [χw] at g
  split at g
  .grind [GF]
  .rename_i f
   rw [IB]
   .exact v _ _ _ (h.p i z g)
   .intro G;exact f (h.pi i j s r G).symm
 .show B6 n (c j) (V7 l) d=some (.cells _ [hdr N.nh N.nd.length,hdr N.mh (N.po.set j l).length,_]);rw [ωr];exact p _ _ _ (by decide) h.w
 .have:=h.e x q
  simpa using this
 .rcases ψs m with m | rfl
  .exact h.q z m
  .exact B
abbrev effT:TypeId:=188
abbrev plaT:TypeId:=254
abbrev c9:TypeId:=176
abbrev X4:TypeId:=186
def GE (x:Nd) (b cap:Nat) (e:Nat×Int):Nd:={x with eh:=some (b,cap),ef:=x.ef++ [e]}
def Iz (x:Nd) (b cap:Nat) (e:Nat×Nat):Nd:={x with ph:=some (b,cap),pl:=x.pl++ [e]}
def Lb (y:Po) (b cap:Nat) (i:Nat):Po:={y with qh:=some (b,cap),q:=y.q++ [i]}
theorem C3.addE {o s:Nat} {l d:Nat ->Nat} {N:Net} {M:MF} (h:C3 o s l d N M) {i:Nat} {x:Nd} (f:N.nd[i]? =some x) (e:Nat×Int) (v:e.1<N.po.length) {b a:Nat} (w:Bj M x.eh b=none) (u:((x.ef++ [e]).map (et d)).length<=a):
  C3 o s l d {N with nd:=N.nd.set i (GE x b a e)} (B6 (B6 (Bj M x.eh) b (.row effT 2 a ((x.ef++ [e]).map (et d)))) (l i) (V8 (GE x b a e))):=by
 have c:=(φ.1 f).1
 obtain ⟨A,y⟩:=h.row (N':={N with nd:=N.nd.set i (GE x b a e)}) (.e i) (w0:=⟨x.eh,effT,2,x.ef.map (et d)⟩) (w1:=⟨some (b,a),effT,2,(x.ef++ [e]).map (et d)⟩)
  (by show (⟨(N.nd.getD i CT).eh,_,_,(N.nd.getD i CT).ef.map _⟩:RowM)=_;rw [Hn f])
  (by show (⟨((N.nd.set i (GE x b a e)).getD i CT).eh,_,_,((N.nd.set i (GE x b a e)).getD i CT).ef.map _⟩:RowM)=_;rw [Ep c,ς rfl];rfl)
  (λr t=>by
   cases r with
   | q j=>rfl
   | m=>rfl
   | n=>show (⟨_,_,_,(List.range (N.nd.set i (GE x b a e)).length).map _⟩:RowM)=_;rw [ωr];rfl
   | e k=>
    show (⟨((N.nd.set i (GE x b a e)).getD k CT).eh,_,_,((N.nd.set i (GE x b a e)).getD k CT).ef.map _⟩:RowM)=⟨(N.nd.getD k CT).eh,_,_,(N.nd.getD k CT).ef.map _⟩
    rw [Ep c,η (λe=>t (by rw [e]))]
   | p k=>
    show (⟨((N.nd.set i (GE x b a e)).getD k CT).ph,_,_,((N.nd.set i (GE x b a e)).getD k CT).pl.map _⟩:RowM)=⟨(N.nd.getD k CT).ph,_,_,(N.nd.getD k CT).pl.map _⟩
    rw [Ep c,RD f k CT]
    split<;>rfl) w Z u
 refine h.putNd f y A ⟨λz g=>?_,(h.e x (ξ f)).2⟩;rcases ϖ.1 g with g | g
 .exact (h.e x (ξ f)).1 z g
 .rw [κ.1 g];exact v
theorem C3.addP {o s:Nat} {l d:Nat ->Nat} {N:Net} {M:MF} (h:C3 o s l d N M) {i:Nat} {x:Nd} (f:N.nd[i]? =some x) (e:Nat×Nat) (v:e.1<N.po.length) {b a:Nat} (w:Bj M x.ph b=none) (u:((x.pl++ [e]).map (plD d)).length<=a):
  C3 o s l d {N with nd:=N.nd.set i (Iz x b a e)} (B6 (B6 (Bj M x.ph) b (.row plaT 2 a ((x.pl++ [e]).map (plD d)))) (l i) (V8 (Iz x b a e))):=by
 have c:=(φ.1 f).1
 obtain ⟨A,y⟩:=h.row (N':={N with nd:=N.nd.set i (Iz x b a e)}) (.p i) (w0:=⟨x.ph,plaT,2,x.pl.map (plD d)⟩) (w1:=⟨some (b,a),plaT,2,(x.pl++ [e]).map (plD d)⟩)
  (by show (⟨(N.nd.getD i CT).ph,_,_,(N.nd.getD i CT).pl.map _⟩:RowM)=_;rw [Hn f])
  (by show (⟨((N.nd.set i (Iz x b a e)).getD i CT).ph,_,_,((N.nd.set i (Iz x b a e)).getD i CT).pl.map _⟩:RowM)=_;rw [Ep c,ς rfl];rfl)
  (λr t=>by
   cases r with
   | q j=>rfl
   | m=>rfl
   | n=>show (⟨_,_,_,(List.range (N.nd.set i (Iz x b a e)).length).map _⟩:RowM)=_;rw [ωr];rfl
   | p k=>
    show (⟨((N.nd.set i (Iz x b a e)).getD k CT).ph,_,_,((N.nd.set i (Iz x b a e)).getD k CT).pl.map _⟩:RowM)=⟨(N.nd.getD k CT).ph,_,_,(N.nd.getD k CT).pl.map _⟩
    rw [Ep c,η (λe=>t (by rw [e]))]
   | e k=>
    show (⟨((N.nd.set i (Iz x b a e)).getD k CT).eh,_,_,((N.nd.set i (Iz x b a e)).getD k CT).ef.map _⟩:RowM)=⟨(N.nd.getD k CT).eh,_,_,(N.nd.getD k CT).ef.map _⟩
    rw [Ep c,RD f k CT]
    split<;>rfl) w Z u
 refine h.putNd f y A ⟨(h.e x (ξ f)).1,λz g=>?_⟩;rcases ϖ.1 g with g | g
 .exact (h.e x (ξ f)).2 z g
 .rw [κ.1 g];exact v
theorem C3.addQ {o s:Nat} {c l:Nat ->Nat} {N:Net} {M:MF} (h:C3 o s c l N M) {j:Nat} {y:Po} (g:N.po[j]? =some y) {i:Nat} (v:i<N.nd.length) {b a:Nat} (w:Bj M y.qh b=none) (u:((y.q++ [i]).map λi=>B3 (c i)).length<=a):
  C3 o s c l {N with po:=N.po.set j (Lb y b a i)} (B6 (B6 (Bj M y.qh) b (.row c9 1 a ((y.q++ [i]).map λi=>B3 (c i)))) (l j) (V7 (Lb y b a i))):=by
 have f:=(φ.1 g).1
 obtain ⟨A,x⟩:=h.row (N':={N with po:=N.po.set j (Lb y b a i)}) (.q j) (w0:=⟨y.qh,c9,1,y.q.map λi=>B3 (c i)⟩) (w1:=⟨some (b,a),c9,1,(y.q++ [i]).map λi=>B3 (c i)⟩)
  (by show (⟨(N.po.getD j Co).qh,_,_,(N.po.getD j Co).q.map _⟩:RowM)=_;rw [Hn g])
  (by show (⟨((N.po.set j (Lb y b a i)).getD j Co).qh,_,_,((N.po.set j (Lb y b a i)).getD j Co).q.map _⟩:RowM)=_;rw [Ep f,ς rfl];rfl)
  (λr t=>by
   cases r with
   | e k=>rfl
   | p k=>rfl
   | n=>rfl
   | m=>show (⟨_,_,_,(List.range (N.po.set j (Lb y b a i)).length).map _⟩:RowM)=_;rw [ωr];rfl
   | q k=>
    show (⟨((N.po.set j (Lb y b a i)).getD k Co).qh,_,_,((N.po.set j (Lb y b a i)).getD k Co).q.map _⟩:RowM)=⟨(N.po.getD k Co).qh,_,_,(N.po.getD k Co).q.map _⟩
    rw [Ep f,η (λe=>t (by rw [e]))]) w Z u
 refine h.putPo g x A λz d=>?_;rcases ϖ.1 d with d | d
 .exact h.q y (ξ g) z d
 .rw [κ.1 d];exact v
def FB (x:Nd):Nd:={x with eh:=none,ph:=none}
def Ck (y:Po):Po:={y with qh:=none}
def BN (N:Net):Net:=⟨N.nd.map FB,N.po.map Ck,none,none⟩
def jnX (x:Nd) (j:Nat) (n:Nat) (a:Int):Nd:={x with ef:=x.ef++ [(j,a)],pl:=if a<0 then x.pl++ [(j,n)] else x.pl}
def jnY (y:Po) (i:Nat) (a:Int):Po:={y with sum:=y.sum+a,q:=if a<0 then y.q++ [i] else y.q}
theorem C3.keepE (h:C3 d e a c N M) (n:N.nd[i]? =some x) (p:Bj M x.eh f=none) (l:M k=some (.cells t g)):B6 (Bj M x.eh) f m k=some (.cells t g):=
 keepM p l λj o=>by have:=Sp (h.nn i x n).2.1 o;rw [l] at this;cases this
theorem C3.keepP (h:C3 d e a c N M) (n:N.nd[i]? =some x) (p:Bj M x.ph f=none) (l:M k=some (.cells t g)):B6 (Bj M x.ph) f m k=some (.cells t g):=
 keepM p l λj o=>by have:=Sp (h.nn i x n).2.2 o;rw [l] at this;cases this
theorem C3.keepQ (h:C3 d e a c N M) (n:N.po[j]? =some y) (p:Bj M y.qh f=none) (l:M k=some (.cells t g)):B6 (Bj M y.qh) f m k=some (.cells t g):=
 keepM p l λi o=>by have:=Sp (h.pp j y n).2 o;rw [l] at this;cases this
set_option maxHeartbeats 1000000 in
theorem join_c {S T:Nat} {E p:Nat ->Nat} {N:Net} {M:MF} (h:C3 S T E p N M) {i j:Nat} {x:Nd} {y:Po} (o:N.nd[i]? =some x) (G:N.po[j]? =some y) (a:Int) (ha: -100000000000000000<=a/\a<=100000000000000000) (hs: -1000000000000000000<=y.sum/\y.sum<=1000000000000000000) (he:x.ef.length<=100000) (hp:x.pl.length<=100000) (hq:y.q.length<=100000):
  AT prog 144 [.d (pD (E i) 0),.d (pD (p j) 0),.d (AF a)] (HN M) λr H'=>r= .tup []/\∃D X,H'=HN X/\C3 S T E p D X/\D.nh=N.nh/\D.mh=N.mh/\(∃R,D.nd=N.nd.set i R/\FB R=FB (jnX x j y.q.length a))/\∃y',D.po=N.po.set j y'/\Ck y'=Ck (jnY y i a):=by
 have t:=h.n i x o;have H:=(h.nn i x o).2.1;have Y:=(h.nn i x o).2.2;have w:=(φ.1 o).1;have n:=(φ.1 G).1;have I:=V2 (h.pp j y G).2;refine Ax func144 Z Z ntmps144 Z Z Z λF Q=>?_;refine AD (AE (goMv Z Z (goMv Z Z (J (Dk Z Z) (J (Cg Z LT Z Z Z) (J (EG (f:=40) Z Z (t) Z Xg Z) (goMv Z Z (goMv Z Z ?_))))))));refine J (EI az pl188 Z Z Z) (V (C1 1 sl181 Z Z Z Z Z Z Z Z) (V (H4 10 60 40 H Z Z (by simp) Z Z Z Z Z (Eu (emb:=et p) x.ef [(j,a)] Z Z Z Z Z Z Z Z sl181 (by simp only [υ];omega) Z Z Z Z)) (FZ 15 60 40 Q Z Z Z (by simp) (by simp) Z Z Z Z Z Z Z (λ_ _=>rfl) λW U B O=>(J (Dk Z Z) (J (Cg Z LT Z Z Z) (V (QT (f:=40) Z Z Z Z (h.keepE o B t) ((by show _<9;omega)) Z sz181) (AC (AD ?_))))))));have C:=h.addE o (j,a) n B O;have q:=C.p j y G;refine AE (goMv Z Z (J (Dk Z Z) ?_));refine J (Cg Z LR Z Z Z) (J (EG (f:=40) Z Z (q) Z Fn Z) (goMv Z Z (J (Ah Z Z (Θ _ (by omega)) Z) (J (Dk Z Z) (J (Cg Z LR Z Z Z) (V (QT (f:=40) Z Z Z Z (q) ((by show _<10;omega)) Z sz2) (AC (AD ?_))))))));have b:=C.setPo (y':={y with sum:=y.sum+a}) G Z Z;have g:(N.nd.set i (GE x W U (j,a)))[i]? =some (GE x W U (j,a)):=List.getElem?_set_self w;have c:(N.po.set j {y with sum:=y.sum+a})[j]? =some {y with sum:=y.sum+a}:=List.getElem?_set_self n;have m:=b.n i _ g;have s:=b.p j _ c;have v:=(b.nn i _ g).2.2;refine AE (goMv Z Z (J (Az Z Z Z) (AC (A7 Z (λe=>?_) (λe=>?_)))))
 .refine AD (CD [[],[],[1],[1,2],[1,2,3],[],[],[6],[6,7],[6,7,8],[6,7,8,9],[5,6,7,8,9,10],[5,6,7,8,9,10,11],[1,2,3,4,5,6,7,8,9,10,11,12],rg 14,rg 15,rg 16] mixed Z (Bt (Ak 0 Z Z ?_)));refine Ak 0 Z Z (AP [29] Z (Dk Z Z) (AP [30] Z (Cg Z LS Z Z Z) (As [31] [40] Z Z (λ_=>A8 (EG (f:=40) Z Z (m) Z Xf Z)) (Ak 1 Z Z (Ak 1 Z Z (AP [34] Z (Dk Z Z) (AP [35] Z (Cg Z Hu Z Z Z) (As [36] [40] Z Z (λ_=>A8 (EG (f:=40) Z Z (s) Z HC Z)) ?_))))))));refine AP [37] Z (Wz I Z underlying175 Z) (AP [33,38] Z (EI XE pl254 Z Z Z) (F5 [39] [2] [(40,_)] Z Z (λ_=>F6 (C1 2 sl182 Z Z Z Z Z Z Z Z)) (.inr ⟨40,_,Z,Z,Z,Z,Z⟩) Z Z Z Z Z (F5 [32,40] [61,40,2] [(41,_)] Z Z (λ_=>F6 (H4 32 61 40 v Z Z (by simp [GE]) Z Z Z Z Z (Eu (emb:=plD p) x.pl [(j,y.q.length)] Z Z Z Z Z Z Z Z sl182 (by simp only [υ];omega) Z Z Z Z))) (.inr ⟨41,_,Z,Z,Z,Z,Z⟩) Z Z Z Z Z (Bk 14 Z Z Z (Ab 15 Z Z (FZ 41 61 40 Q Z Z Z (by simp) (by simp) Z Z Z Z Z Z Z (λ_ _=>rfl) λb2 c2 A L=>(J (Dk Z Z) (AC ⟨Z,?_⟩))))))));refine Ab 16 Z Z (J (Cg Z LS Z Z Z) (AC ⟨Z,?_⟩));refine Ab 17 Z Z (V (QT (f:=40) Z Z Z Z (b.keepP g A m) ((by show _<9;omega)) Z sz182) (AC ⟨Z,?_⟩));refine Bx ?_;have k:=b.addP g (j,y.q.length) (by show j<(N.po.set j _).length;rw [ωr];exact n) A L;have l:=k.p j _ c;have u:=(k.pp j _ c).2;refine AE (goMv Z Z (goMv Z Z (J (Dk Z Z) (J (Cg Z Hu Z Z Z) ?_))));refine J (EG (f:=40) Z Z (l) Z HC Z) (goMv Z Z (V (C1 3 X0 Z Z Z Z Z Z Z Z) (V (H4 48 62 40 u Z Z (by simp) Z Z Z Z Z (Eu (emb:=λi=>B3 (E i)) y.q [i] Z Z Z Z Z Z Z Z X0 (by simp only [υ];omega) Z Z Z Z)) (FZ 51 62 40 Q Z Z Z (by simp) (by simp) Z Z Z Z Z Z Z (λ_ _=>rfl) λb3 c3 z K=>(J (Dk Z Z) (J (Cg Z Hu Z Z Z) (V (QT (f:=40) Z Z Z Z (k.keepQ c z l) ((by show _<10;omega)) Z sz175) (AC ?_))))))));have P:=k.addQ c (i:=i) (by show i<((N.nd.set i _).set i _).length;rw [ωr,ωr];exact w) z K;exact ⟨_,[40],_,AY Z,Z,Z,Z,_,_,Z,P,Z,Z,⟨_,List.set_set _,by unfold FB Iz GE jnX;simp [e]⟩,⟨_,List.set_set _,by unfold Ck Lb jnY;simp [e]⟩⟩
 .refine AX ?_;exact ⟨_,[40],_,AY Z,Z,Z,Z,_,_,Z,b,Z,Z,⟨_,Z,by unfold FB GE jnX;simp [e]⟩,⟨_,Z,by unfold Ck jnY;simp [e]⟩⟩
end Go.Proofs.YteifpcnphnhaoaaGreat
