import Derived.Test.YteifpcnphnhaoaaGreatMg19
open Go.Proofs.Tryz
set_option maxHeartbeats 2000000
namespace Go.Proofs.YteifpcnphnhaoaaGreat
open Go.RowKit
variable {M:MF}
set_option maxRecDepth 100000
def fe (N:fC) (i:Nat):Bool:=(N.nd.getD i Bo).on
def P7 (N:fC) (x:Nd):Option KV:=if x.on=true then F5 N x else none
def UT (N:fC) (y:Po):Option KV:=if Q2 y y.sum=true then (y.q.reverse.find? (fe N)).map λi=>⟨(N.nd.getD i Bo).it.id,0,y.r,-1⟩ else none
def CT (N:fC):Option KV:=match N.nd.findSome? (P7 N) with
 | some e=>some e
 | none=>N.po.findSome? (UT N)
theorem Ho {g c:Type} {f:g ->Option c}:∀{l:List g} {k:Nat} (i:k<l.length) {b:c},(∀x∈l.take k,f x=none) ->f l[k]=some b ->l.findSome? f=some b
 | a::l,0,_,b,_,h=>by simp at h;rw [m7,h]
 | a::l,k+1,i,b,j,h=>by
  have s:f a=none:=j a (by simp);have o:=Ho (l:=l) (k:=k) (by simpa using i) (λx r=>j x (by simp [r])) (by simpa using h);rw [m7,s];exact o
theorem Hn {a b:Type} {f:a ->Option b} {l:List a} (h:∀x∈l,f x=none):l.findSome? f=none:=List.findSome?_eq_none_iff.2 h
def nw:Bool ->LoopState
 | true=> .done
 | false=> .ready
def sG:Bool ->Option Code
 | true=>some .ret
 | false=>none
def H7 (N:fC) (_st:Option Nat) (e:Nat×Nat):Option Nat×Bool:=if fe N e.2=true then (some e.2,false) else (none,true)
theorem ct (N:fC) (q:List Nat):∀n,n<=q.length ->HT (H7 N) none (Kc q n)=((q.take n).reverse.find? (fe N))
 | 0,_=>rfl
 | n+1,h=>by
  have a:n<q.length:=by omega
  show HT (H7 N) none ((n,q.getD n 0)::Kc q n)=_;rw [Dq,χ a,List.reverse_append,List.reverse_singleton,List.singleton_append,List.find?_cons,EQ 0 a];unfold H7;dsimp only
  cases ho:fe N q[n] with
  | true=>rfl
  | false=>exact ct N q n (by omega)
theorem Ww {P:Program} {l:Nat} {c:Nat ->Nat} {H:Option Nat ->Hp} (N:fC) (q:List Nat) (g:∀k (s:k<q.length),Fu P l (dB c (k,q[k])) (H none) λv i=>v= .d (.raw (.bool (!fe N q[k])))/\i=H (if fe N q[k]=true then some q[k] else none)):∀n,n<=q.length ->Lk P l (dB c) H (H7 N) none (Kc q n)
 | 0,_=>trivial
 | n+1,h=>by
  have f:n<q.length:=by omega
  have j:=g n f;show Lk P l (dB c) H (H7 N) none ((n,q.getD n 0)::Kc q n);rw [EQ 0 f];refine ⟨j.mono λv i ⟨r,o⟩=>⟨by rw [r];unfold H7;cases fe N q[n]<;>rfl,by rw [o];unfold H7;cases fe N q[n]<;>rfl⟩,λa=>?_⟩
  have b:fe N q[n]=false:=by
   cases ho:fe N q[n] with
   | false=>rfl
   | true=>unfold H7 at a;dsimp only at a;rw [ho] at a;cases a
  have:(H7 N none (n,q[n])).1=none:=by unfold H7;dsimp only;rw [b];rfl
  rw [this];exact Ww N q g n (by omega)
abbrev pf (e:KV):AI:= .blk 245 [.d (AF e.id),.d (AF e.re),.d (AF e.r.k),.d (Aj e.r.acc.o),.d (AF e.r.acc.k),.d (Aj e.r.acc.a),.d (Aj e.r.f),.d (Aj e.r.t),.d (AF e.by_)]
def sk (N:fC) (y:Po) (o:Option Nat):KV:=match o with
 | none=>lJ
 | some i=>⟨(N.nd.getD i Bo).it.id,0,y.r,-1⟩
abbrev tK (N:fC) (y:Po) (pbk mv:Nat) (bs:Option (List Nat×Nat)) (L:List (Int×Value)) (M:MF) (o:Option Nat):Hp:=[(1,[pf (sk N y o)]),(2,[.blk 4 [.d (Aa o.isSome)]]),(4,[.blk 186 [.d (BH pbk)]]),(40,[.multi M]),(50,[.map bs (BK AF Kg L)]),(51,[.addr 50 0 (.map (some mv))])]
theorem o9 {wb H:Nat} {nb pb:Nat ->Nat} {N:fC} (O:Option (List Nat×Nat)) (h:Bx wb H nb pb N M) (hw:ga N) (hs:Rt N.po 1000000000000000000):
  AJ prog 139 [.d (pD wb 0)] (HW H O (Fb nb (BO N)) M) λr H'=>r= .d (sm (CT N))/\H'=HW H O (Fb nb (BO N)) M:=by
 have hwb:=h.w;have T:BD M N.nh 176 1 ((List.range N.nd.length).map λi=>BH (nb i)):=h.rs.1 .n;have S:BD M N.mh 186 1 ((List.range N.po.length).map λj=>BH (pb j)):=h.rs.1 .m;have hnz:=UP T;have hpz:=UP S;rw [gI] at hnz hpz;have hnl:=hw.n
 obtain ⟨L,hL⟩:∃L,Fb nb (BO N)=L:=⟨_,Z⟩
 have I:=λi x G=>kj (i:=i) (x:=x) O h hw G;rw [hL] at I⊢;refine OW func139 Z Z ntmps139 Z Z Z λF K hFl=>(AC (AE (V (Bn 1 Ia Z Z Z Z) (V (Bn 2 uc Z Z Z Z) (AD (AC (AC (AE ?_))))))));refine dd Z Z (J (DN Z Z) (J (CM Z IY Z Z Z) (J (D4 (f:=40) Z Z (hwb) Z GH Z) (J (Vk hnz Z R3 Z) (dd Z Z (AD (A0 (BX (α:=Nat) (λk=>⟨74,[(0,.d (pD wb 0)),(2,(.ptr 1 0 0)),(3,(.ptr 2 0 0)),(15,(.d (fE N.nh N.nd.length))),(16,(.d (AF (N.nd.length:Int)))),(17,(.d (AF (k:Int))))],(1,[pf lJ])::(2,[.blk 4 [.d (Aa false)]])::HW H O L M⟩) (λk=>k<=N.nd.length/\∀x∈N.nd.take k,P7 N x=none) (λk=>N.nd.length - k) (0) (⟨υ _,by simp⟩) (AY K [1,2,40,50,51] Z Z ⟨Z,Z,Z,Z,Z,Z,trivial⟩) ?_))))))));rintro k ⟨hk0,w⟩;refine AC (AE (J (BN Z Z Z) (AD (AC (Ac Z (λY=>?_) (λY=>?_))))))
 .have g:k<N.nd.length:=Ba Y;refine AZ (AC (A0 (AC ?_)))
  obtain ⟨x,G⟩:∃x,N.nd[k]? =some x:=⟨_,ω g⟩
  have R:N.nd[k]=x:=by rw [ω g] at G;injection G
  obtain ⟨E,_,_⟩:=h.nn k x G;obtain ⟨rb,rc,u⟩:=UX T (j:=k) (by rw [gI];exact g);have t:=R7 T u;refine AE (J (Vi u (k) Z Z Z g R3 LU Z) (J (mJ (f:=40) (e:=k) (off:=0) Z (by omega) Z (t) ((by rw [η,iW g];rfl)) Z NG Z) ?_));refine AB Z Z (AD (AC ?_));refine AC (AE (dd Z Z (J (DN Z Z) (J (CM Z Ec Z Z Z) (J (D4 (f:=40) Z Z (E) Z oV Z) (J (OZ Z Z) (AD (JJ Z (λX=>?_) (λX=>?_)))))))))
  .have c:P7 N x=none:=by unfold P7;rw [θ (by simpa using X)]
   refine BC ?_
   try have c:P7 N x=none:=by unfold P7;split<;>first | exact hin | rfl
   refine AE (J (Ar Z Z (AO (k+1) (by omega)) Z) (dd Z Z (AD ?_)));exact ⟨k+1,⟨by show k+1<=_;omega,by rw [χ g];intro e a;rcases ν.1 a with a | a;exact w e a;rw [ζ.1 a,R];exact c⟩,by show N.nd.length - (k+1)<N.nd.length - k;omega,AY K [1,2,40,50,51] Z (Z) ⟨Z,Z,Z,Z,Z,Z,trivial⟩⟩
  .refine AZ (AC (AE (dd Z Z (dd Z Z (V (EX (I k x G) Z [40,50,51] ⟨Z,Z,Z,trivial⟩ Z Z Z Z Z Z Z Z Z) ?_)))));refine dd Z Z (J (C6 Z Z Z) (J (C6 Z Z Z) (V (Bn 3 Ia Z Z Z Z) (V (B1 Z Z Z Z Z Z Z JP) (AB Z Z (AD (AC (AE ?_))))))))
   cases hin:F5 N x
   .refine dd Z Z (AD (D3 Z (Z) (AZ ?_)))
    try have c:P7 N x=none:=by unfold P7;split<;>first | exact hin | rfl
    refine AE (J (Ar Z Z (AO (k+1) (by omega)) Z) (dd Z Z (AD ?_)));exact ⟨k+1,⟨by show k+1<=_;omega,by rw [χ g];intro e a;rcases ν.1 a with a | a;exact w e a;rw [ζ.1 a,R];exact c⟩,by show N.nd.length - (k+1)<N.nd.length - k;omega,AY K [1,2,40,50,51] Z (Z) ⟨Z,Z,Z,Z,Z,Z,trivial⟩⟩
   .refine dd Z Z ?_;refine AD (DO Z (Z) (AC (AE (J (BE Z Z mr Z Z Z) (V (B1 Z Z Z Z Z Z Z JP) (V (B1 Z Z Z Z Z Z Z rJ) (AD (A4 ?_))))))));exact ⟨_,[40,50,51],_,A3 Z,Z,Z,by unfold CT;rw [Ho g w (by rw [R];unfold P7;rw [ϱ (by simpa using X)];exact hin)];rfl,Z⟩
 .refine BC (AC (AC ?_));have hnn:N.nd.findSome? (P7 N)=none:=Hn (by have e:k=N.nd.length:=(by have h:=Y;omega);rw [e,fw] at w;exact w);refine AE ?_;refine dd Z Z (J (DN Z Z) (J (CM Z KB Z Z Z) (J (D4 (f:=40) Z Z (hwb) Z W1 Z) (J (Vk hpz Z underlying177 Z) (dd Z Z (AD (A0 (BX (α:=Nat) (λj=>⟨74,[(2,(.ptr 1 0 0)),(3,(.ptr 2 0 0)),(38,(.d (fE N.mh N.po.length))),(39,(.d (AF (N.po.length:Int)))),(40,(.d (AF (j:Int))))],(1,[pf lJ])::(2,[.blk 4 [.d (Aa false)]])::HW H O L M⟩) (λj=>j<=N.po.length/\∀y∈N.po.take j,UT N y=none) (λj=>N.po.length - j) (0) (⟨υ _,by simp⟩) (AY K [1,2,40,50,51] Z Z ⟨Z,Z,Z,Z,Z,trivial⟩) ?_))))))));rintro j ⟨hj0,z⟩;refine AC (AE (J (BN Z Z Z) (AD (AC (Ac Z (λW=>?_) (λW=>?_))))))
  .have s:j<N.po.length:=Ba W;refine AZ (AC (A0 (AC ?_)))
   obtain ⟨y,hy⟩:∃y,N.po[j]? =some y:=⟨_,ω s⟩
   have P:N.po[j]=y:=by rw [ω s] at hy;injection hy
   have C:=ϑ hy;obtain ⟨Q,hyq⟩:=h.pp j y hy;obtain ⟨rb,rc,u⟩:=UX S (j:=j) (by rw [gI];exact s);have t:=R7 S u;have hys:=hs y C;have hov:=L3 h hy y.sum (hw.rm y C) (by omega);have hql:=hw.ql y C;refine AE (J (Vi u (j) Z Z Z s underlying177 Zo Z) (J (mJ (f:=40) (e:=j) (off:=0) Z (by omega) Z (t) ((by rw [η,iW s];rfl)) Z E1 Z) ?_));refine V (Bn 4 qy Z Z Z Z) (V (B1 Z Z Z Z Z Z Z Zo) (AD (AC (AC (DB [[],[],[1],[1,2],[1,2,3],rg 5,rg 6] mixed Z (DP ?_))))));refine CK [9] [4] Z Z (λ_=>A5 (A2 Z Z Z E1 Z)) (CK [9] [4] Z Z (λ_=>A5 (A2 Z Z Z E1 Z)) (AQ [45] Z (DN Z Z) (AQ [46] Z (CM Z Jy Z Z Z) (CK [47] [40] Z Z (λ_=>A5 (D4 (f:=40) Z Z (Q) Z Km Z)) (Cg 5 Z Z Z (Ag 6 Z Z (V (EX hov Z [40] ⟨Z,trivial⟩ Z Z Z Z Z Z Z Z Z) (AD ⟨Z,?_⟩))))))));refine Ag 7 Z Z ?_
   cases hovy:Q2 y y.sum
   .refine J (OZ Z Z) (AD ⟨Z,?_⟩);refine Cr (DO Z (Z) (BC ?_));have b:UT N y=none:=by unfold UT;first | (rw [θ (by rw [hovy];decide)]) | (rw [ϱ hovy,<-ho];rfl)
    refine AE (J (Ar Z Z (AO (j+1) (by omega)) Z) (dd Z Z (AD ?_)));exact ⟨j+1,⟨by show j+1<=_;omega,by rw [χ s];intro e a;rcases ν.1 a with a | a;exact z e a;rw [ζ.1 a,P];exact b⟩,by show N.po.length - (j+1)<N.po.length - j;omega,AY K [1,2,40,50,51] Z (Z) ⟨Z,Z,Z,Z,Z,trivial⟩⟩
   .refine J (OZ Z Z) (AD ⟨Z,?_⟩);refine Cr (D3 Z (Z) (AZ ?_));refine AC (AE (J (A2 Z Z Z E1 Z) (J (DN Z Z) (J (CM Z Gw Z Z Z) (J (D4 (f:=40) Z Z (Q) Z GH Z) (V (EX (lu y.qh y.q.length) Z [] trivial Z Z Z Z Z Z Z Z Z) (AD (A0 ?_))))))));refine eB [2,3,9,38,39,40,55] Z ?_;refine XQ (γ:=Option Nat) hFl 900 Z Z Z Z Z [1,2,4,40,50,51] (CHr:=tK N y (pb j) H O L M none) (λo=>o=y.q.reverse.find? (fe N)) (λo=>tK N y (pb j) H O L M o) (λo=>nw o.isSome) (λo=>sG o.isSome) ⟨Z,Z,Z,Z,Z,Z,trivial⟩ Z Z Z (λ_=>rfl) (λ_=>rfl) Z (λo _=>by cases o<;>simp [nw]) (λ_ _=>⟨Z,Z⟩) [1,2,4,40,50,51] K Z Z (λ_ _=>rfl) (λl A B hA hB=>?_) (λo ho=>?_)
    .refine (lv nb y.q (by omega) hyq l (λo:Option Nat=>(900,[.loop ⟨l,74,[(2,.ptr 1 0 0),(3,.ptr 2 0 0),(9,.ptr 4 0 0),(38,.d (fE N.mh N.po.length)),(39,.d (AF (N.po.length:Int))),(40,.d (AF (j:Int))),(55,.fn cu [.d (.ptr (fE y.qh y.q.length))])],nw o.isSome,sG o.isSome, #[56,57],A,B⟩])::tK N y (pb j) H O L M o) [900,1,2,4,40,50,51] (H7 N) none (λ_=>rfl) (λ_=>rfl) (λ_=>rfl) (λ_=>rfl) ?_).mono (λr H' ⟨e1,e2⟩=>⟨e1,_,Z,by rw [e2,ct N y.q y.q.length (ϖ _),fw]⟩);refine Ww N y.q (λk2 hk2=>?_) y.q.length (ϖ _);have hni:y.q[k2]<N.nd.length:=h.q y C _ (ξ hk2)
     obtain ⟨x,G⟩:∃x,N.nd[y.q[k2]]? =some x:=⟨_,ω hni⟩
     obtain ⟨E,_,_⟩:=h.nn _ x G;have hgx:N.nd.getD y.q[k2] Bo=x:=by rw [Ψ,G];rfl
     have hon:fe N y.q[k2]=x.on:=by unfold fe;rw [hgx]
     refine Re (lf:=900) Z Z Z Z λF K hr=>(Bl.code hA (AE (AB Z Z (AD (⟨Z,_,_,Z,Z,Z,Z,?_⟩)))));refine Bl.code hB ?_;refine A0 (AC (AE (dd Z Z (J (DN Z Z) (J (CM Z Ec Z Z Z) (J (D4 (f:=40) Z Z (E) Z oV Z) (AD (JJ Z (λU=>?_) (λU=>?_)))))))))
     .refine AC (DB [[],[0],[0,1],[0,1,2],[0,1,2,3],[],[5],[5,6],[5,6,7],rg 9,rg 10,rg 11] mixed Z (DP (Av 11 Z Z (AQ [62] Z (DN Z Z) (AQ [63] Z (CM Z F7 Z Z Z) (AQ [64] Z (CM Z OY Z Z Z) ?_))))));refine CK [65] [40] Z Z (λ_=>A5 (D4 (f:=40) Z Z (E) Z Aw Z)) (CK [9] [4] Z Z (λ_=>A5 (A2 Z Z Z E1 Z)) (AQ [67] Z (DN Z Z) (AQ [68] Z (CM Z MN Z Z Z) (CK [69] [40] Z Z (λ_=>A5 (DE (f:=40) Z Z (Q) CQ Z Z (by simp [D.one]) Z)) (Cg 9 Z Z Z (Ag 10 Z Z (J (Fe Ia SV Z Z Z) (AD ⟨Z,?_⟩))))))));refine Ag 11 Z Z (V (B1 Z Z Z Z Z Z Z JP) (AD ⟨Z,?_⟩));refine Ag 12 Z Z (V (B1 Z Z Z Z Z Z Z rJ) (AD ⟨Z,?_⟩));refine Cr (A4 ?_);have v:fe N y.q[k2]=true:=by rw [hon];simpa using U
      exact ⟨some .ret,_,_,[900,1,2,4,40,50,51],_,Z,Z,Z,Z,Z,Z,by rw [v];rfl,by rw [ϱ v];simp only [tK,sk,hgx];rfl⟩
     .refine AZ ?_;have v:fe N y.q[k2]=false:=by rw [hon];simpa using U
      exact ⟨none,_,_,[900,1,2,4,40,50,51],_,Z,Z,Z,Z,Z,Z,by rw [v];rfl,by rw [θ (by rw [v];decide)];rfl⟩
    .rcases o with _ | i0
     .have b:UT N y=none:=by unfold UT;first | (rw [θ (by rw [hovy];decide)]) | (rw [ϱ hovy,<-ho];rfl)
      refine AE (J (Ar Z Z (AO (j+1) (by omega)) Z) (dd Z Z (AD ?_)));exact ⟨j+1,⟨by show j+1<=_;omega,by rw [χ s];intro e a;rcases ν.1 a with a | a;exact z e a;rw [ζ.1 a,P];exact b⟩,by show N.po.length - (j+1)<N.po.length - j;omega,AY K [1,2,40,50,51] Z (Z) ⟨Z,Z,Z,Z,Z,trivial⟩⟩
     .show Bl _ _ .ret _ _;refine A4 ?_;exact ⟨_,[40,50,51],_,A3 Z,Z,Z,by unfold CT;rw [hnn];dsimp only;rw [Ho s z (by rw [P];unfold UT;rw [ϱ hovy,<-ho];rfl)];rfl,Z⟩
  .refine BC (AC (AE (J (Fe Ia SV Z Z Z) (V (B1 Z Z Z Z Z Z Z JP) (V (B1 Z Z Z Z Z Z Z rJ) (AD (A4 ?_)))))));exact ⟨_,[40,50,51],_,A3 Z,Z,Z,by unfold CT;rw [hnn];dsimp only;rw [Hn (by have e:j=N.po.length:=(by have h:=W;omega);rw [e,fw] at z;exact z)];rfl,Z⟩
theorem SR.splitH {F:Fr} {s:AS} {L:Nat ->Nat ->Value} {k:Act} {w:World} (l:SR F s L k w) (t g f:Nat) {T:TypeId} {A m:Nat} {h:Hd} {I:List D} {u:List (Nat×AV)} {c hp':Hp} (C:Nat.beq g f=false)
  (B:get s.env t=some (.d (fE h m))) (Y:m=I.length) (hM:eQ s.hp f=some [.multi M]) (j:BD M h T A I) (hE:AX g s.env=some u) (J:AT g s.hp=some c) (R:eQ c g=none) (E:B4 c f (BZ M h)=some hp'):
  ∃v,SR F ⟨s.n,(t,.own g 0 m)::u,(g,[.rowD T A I])::hp'⟩ (upd L g 0 v) k w:=by
 match h,B,j,E with
 | some (b,cap),B,j,E=>exact ⟨_,l.splitR t g f (cap:=cap) (b:=b) C B Y hM j.2 hE J R E⟩
 | none,B,j,E=>
  have S:I=[]:=j;subst S Y;have hgf:g≠f:=iB C;refine ⟨.slice none 0 0,?_⟩
  have V:hp'=c:=by
   have P:∀(H z:Hp),eQ H f=some [.multi M] ->B4 H f M=some z ->z=H:=by
    intro H
    induction H with
    | nil=>intro z h;cases h
    | cons p r ih=>
     grind [eQ,B4]
   obtain ⟨a1,a2⟩:=Ak J
   have W:eQ c f=some [.multi M]:=by
    have X:∀(H z:Hp),Bv (B2 g) H=some z ->eQ H f=some [.multi M] ->eQ z f=some [.multi M]:=by
     intro H
     induction H with
     | nil=>intro z _ h;cases h
     | cons p r ih=>
      grind [Bv,Dz,eQ,Bu]
    grind
   exact P c hp' W E
  rw [V]
  have h1:SR F ⟨s.n,(t,.d (.sl (some true) []))::s.env,s.hp⟩ L k w:=⟨l.size,l.defs,λN a y=>by
   rcases LR y with ⟨rfl,rfl⟩ | ⟨_,y⟩
   .have j:=l.env t _ B
    generalize k.tmps.getD t undef=x at j⊢
    cases j with
    | d h=>cases h with
     | raw _=>exact .d (.sl 0 (λb G=>by cases G;rfl) (λ_=>rfl) Z (ϖ _) (υ _) (λx U=>by cases U) (λh=>absurd Z h) (λb o G=>by cases G))
   .exact l.env N a y,l.heap⟩
  obtain ⟨k1,k2⟩:=Ak J
  have Q:∀i,dr s.hp g i=none:=λi=>by
   cases hq:dr s.hp g i with
   | none=>rfl
   | some o=>
    obtain ⟨o2,O,_⟩:=k2 _ _ _ hq;unfold dr at O;rw [R] at O;cases O
  have K:=l.set g 0 (.rowD T A []) (.slice none 0 0) (hp':=(g,[.rowD T A []])::c) hE J (λf' i=>by
   by_cases e:g=f'
   .subst e;simp only [dr,eQ,gh,i7,true_and,Ky (o:= .rowD T A []) Z,R,Option.bind_none]
    cases i<;>simp
   .simp only [dr,eQ,HV e]
    rw [θ (λhh=>e hh.1.symm)]) (λt cs e=>by rw [Q] at e;cases e) (λb G=>by cases G) Z Z Z (ϖ _) (λ_ _ _=>rfl) (λ_=>⟨[],World.ownsRow_nil w 0 T A,⟨by simp,by simp,λi x U=>by simp at U⟩,by simp⟩)
  refine ⟨K.size,K.defs,λN a y=>?_,K.heap⟩;rcases LR y with ⟨rfl,rfl⟩ | ⟨_,y⟩
  .have j:=l.env t _ B
   generalize k.tmps.getD t undef=x at j⊢
   cases j with
   | d h=>cases h with | raw _=>exact .own Oq (ϖ _)
  .exact K.env N a y
section
variable {P:Program} {F:Fr} {Q:Exit ->AS ->Prop} {c:Code} {ops:Array Oper} {l:List Oper} {n:Nat} {env env1 env':List (Nat×AV)} {hp hp1 hp2 hp3:Hp}
theorem G5 {o:Oper} (t g f:Nat) {M:MF} {T:TypeId} {y m:Nat} {h:Hd} {r:List D} {b:Hp} {x:AS} (C:BD M h T y r) (s:Nat.beq g f=false) (A:get env t=some (.d (fE h m))) (E:m=r.length) (H:eQ hp f=some [.multi M]) (J:AX g env=some env') (I:AT g hp=some hp1) (z:eQ hp1 g=none) (G:B4 hp1 f (BZ M h)=some b)
  (N:AH P F o ⟨n,(t,.own g 0 m)::env',(g,[.rowD T y r])::b⟩ x (B2 g)):AH P F o ⟨n,env,hp⟩ x (B2 g):=λR u w B=>by
 obtain ⟨v,O⟩:=B.splitH t g f s A E H C J I z G;exact mK (λa S ⟨k,L,K⟩=>⟨k,L,λf i j=>(K f i j).trans (MX λe=>RU j e.1)⟩) (N _ u w O)
end
variable {a c:Nat ->Nat} {N:fC} {M:MF} {f g i h:Nat} {x:Nd} {j:List D} {t:TypeId} {k o s:Nat} {y:Po} {u:A7} {w:MF}
theorem Bx.row {N':fC} (i:Bx f g c a N M) (k:RI) {w0 w1:fG} (B:CO c a N k=w0) (A:CO c a N' k=w1) (y:∀r,r≠k ->CO c a N' r=CO c a N r) (u:BZ M w0.h h=none) (z:w1.h=some (h,o)) (w:w1.xs.length<=o):
  E3 (BJ (BZ M w0.h) h (.row w1.t w1.k o w1.xs)) (CO c a N')/\∀(s:Nat) (t:TypeId) (l:List D),M s=some (.cells t l) ->BJ (BZ M w0.h) h (.row w1.t w1.k o w1.xs) s=some (.cells t l):=by
 subst B A;refine ⟨i.rs.upd k y u z w,λs t l v=>gp u v λj x=>?_⟩;have:=i.rs.blk x
 grind
theorem Bx.putNd (h:Bx f g c a N M) {l:Nd} (C:N.nd[i]? =some x) (E:∀(F:Nat) (t:TypeId) (s:List D),M F=some (.cells t s) ->w F=some (.cells t s)) (G:E3 w (CO c a {N with nd:=N.nd.set i l})) (J:(∀e∈l.ef,e.1<N.po.length)/\∀e∈l.pl,e.1<N.po.length):
  Bx f g c a {N with nd:=N.nd.set i l} (BJ w (c i) (UV l)):=by
 have K:=h.n i x C;have B:=(φ.1 C).1
 have u:∀(b:Nat) (t:TypeId) (s:List D),t≠184 ->M b=some (.cells t s) ->BJ w (c i) (UV l) b=some (.cells t s):=λb t s O P=>by
  grind [Ft]
 refine ⟨λj z r=>?_,λj y v=>u _ _ _ (by decide) (h.p j y v),G.cells (E _ _ _ K),?_,λj k I H=>h.ni j k (by simpa using I) (by simpa using H),h.pi,λz r=>?_,λy v=>?_⟩
 .have o:(N.nd.set i l)[j]? =some z:=r
  clear r
  have A:j<N.nd.length:=by have:=(φ.1 o).1;rw [fq] at this;exact this
  rw [jB] at o
  split at o
  .grind [EB]
  .rename_i e
   rw [Ft]
   .exact E _ _ _ (h.n j z o)
   .intro L;exact e (h.ni j i A B L).symm
 .show BJ w (c i) (UV l) f=some (.cells _ [fE N.nh (N.nd.set i l).length,fE N.mh N.po.length,_]);rw [fq];exact u _ _ _ (by decide) h.w
 .rcases iw r with r | rfl
  .exact h.e z r
  .exact J
 .have:=h.q y v
  simpa using this
theorem Bx.putPo (h:Bx f g c a N M) {r:Po} (E:N.po[k]? =some y) (F:∀(G:Nat) (t:TypeId) (u:List D),M G=some (.cells t u) ->w G=some (.cells t u)) (H:E3 w (CO c a {N with po:=N.po.set k r})) (I:∀i∈r.q,i<N.nd.length):
  Bx f g c a {N with po:=N.po.set k r} (BJ w (a k) (UU r)):=by
 have L:=h.p k y E;have B:=(φ.1 E).1
 have v:∀(b:Nat) (t:TypeId) (u:List D),t≠190 ->M b=some (.cells t u) ->BJ w (a k) (UU r) b=some (.cells t u):=λb t u P Q=>by
  grind [Ft]
 refine ⟨λi x A=>v _ _ _ (by decide) (h.n i x A),λi z s=>?_,H.cells (F _ _ _ L),?_,h.ni,λi l K J=>h.pi i l (by simpa using K) (by simpa using J),λx A=>?_,λz s=>?_⟩
 .have o:(N.po.set k r)[i]? =some z:=s
  clear s
  have C:i<N.po.length:=by have:=(φ.1 o).1;rw [fq] at this;exact this
  rw [jB] at o
  split at o
  .grind [EB]
  .rename_i e
   rw [Ft]
   .exact F _ _ _ (h.p i z o)
   .intro O;exact e (h.pi i k C B O).symm
 .show BJ w (a k) (UU r) f=some (.cells _ [fE N.nh N.nd.length,fE N.mh (N.po.set k r).length,_]);rw [fq];exact v _ _ _ (by decide) h.w
 .have:=h.e x A
  simpa using this
 .rcases iw s with s | rfl
  .exact h.q z s
  .exact I
abbrev pk:TypeId:=188
abbrev oP:TypeId:=254
abbrev bC:TypeId:=176
abbrev WQ:TypeId:=186
def FO (x:Nd) (b cap:Nat) (e:Nat×Int):Nd:={x with eh:=some (b,cap),ef:=x.ef++ [e]}
def Hz (x:Nd) (b cap:Nat) (e:Nat×Nat):Nd:={x with ph:=some (b,cap),pl:=x.pl++ [e]}
def KR (y:Po) (b cap:Nat) (i:Nat):Po:={y with qh:=some (b,cap),q:=y.q++ [i]}
theorem Bx.addE (l:Bx f g c a N M) (t:N.nd[i]? =some x) (e:Nat×Int) (y:e.1<N.po.length) (A:BZ M x.eh h=none) (w:((x.ef++ [e]).map (dC a)).length<=o):
  Bx f g c a {N with nd:=N.nd.set i (FO x h o e)} (BJ (BJ (BZ M x.eh) h (.row pk 2 o ((x.ef++ [e]).map (dC a)))) (c i) (UV (FO x h o e))):=by
 have s:=(φ.1 t).1
 obtain ⟨C,B⟩:=l.row (N':={N with nd:=N.nd.set i (FO x h o e)}) (.e i) (w0:=⟨x.eh,pk,2,x.ef.map (dC a)⟩) (w1:=⟨some (h,o),pk,2,(x.ef++ [e]).map (dC a)⟩)
  (by show (⟨(N.nd.getD i Bo).eh,_,_,(N.nd.getD i Bo).ef.map _⟩:fG)=_;rw [Gp t])
  (by show (⟨((N.nd.set i (FO x h o e)).getD i Bo).eh,_,_,((N.nd.set i (FO x h o e)).getD i Bo).ef.map _⟩:fG)=_;rw [EN s,ϱ rfl];rfl)
  (λr v=>by
   cases r with
   | q j=>rfl
   | m=>rfl
   | n=>show (⟨_,_,_,(List.range (N.nd.set i (FO x h o e)).length).map _⟩:fG)=_;rw [fq];rfl
   | e k=>
    show (⟨((N.nd.set i (FO x h o e)).getD k Bo).eh,_,_,((N.nd.set i (FO x h o e)).getD k Bo).ef.map _⟩:fG)=⟨(N.nd.getD k Bo).eh,_,_,(N.nd.getD k Bo).ef.map _⟩
    rw [EN s,θ (λe=>v (by rw [e]))]
   | p k=>
    show (⟨((N.nd.set i (FO x h o e)).getD k Bo).ph,_,_,((N.nd.set i (FO x h o e)).getD k Bo).pl.map _⟩:fG)=⟨(N.nd.getD k Bo).ph,_,_,(N.nd.getD k Bo).pl.map _⟩
    rw [EN s,Pk t k Bo]
    split<;>rfl) A Z w
 refine l.putNd t B C ⟨λz u=>?_,(l.e x (ϑ t)).2⟩;rcases ν.1 u with u | u
 .exact (l.e x (ϑ t)).1 z u
 .rw [ζ.1 u];exact y
theorem Bx.addP (l:Bx f g c a N M) (t:N.nd[i]? =some x) (e:Nat×Nat) (y:e.1<N.po.length) (A:BZ M x.ph h=none) (w:((x.pl++ [e]).map (jJ a)).length<=o):
  Bx f g c a {N with nd:=N.nd.set i (Hz x h o e)} (BJ (BJ (BZ M x.ph) h (.row oP 2 o ((x.pl++ [e]).map (jJ a)))) (c i) (UV (Hz x h o e))):=by
 have s:=(φ.1 t).1
 obtain ⟨C,B⟩:=l.row (N':={N with nd:=N.nd.set i (Hz x h o e)}) (.p i) (w0:=⟨x.ph,oP,2,x.pl.map (jJ a)⟩) (w1:=⟨some (h,o),oP,2,(x.pl++ [e]).map (jJ a)⟩)
  (by show (⟨(N.nd.getD i Bo).ph,_,_,(N.nd.getD i Bo).pl.map _⟩:fG)=_;rw [Gp t])
  (by show (⟨((N.nd.set i (Hz x h o e)).getD i Bo).ph,_,_,((N.nd.set i (Hz x h o e)).getD i Bo).pl.map _⟩:fG)=_;rw [EN s,ϱ rfl];rfl)
  (λr v=>by
   cases r with
   | q j=>rfl
   | m=>rfl
   | n=>show (⟨_,_,_,(List.range (N.nd.set i (Hz x h o e)).length).map _⟩:fG)=_;rw [fq];rfl
   | p k=>
    show (⟨((N.nd.set i (Hz x h o e)).getD k Bo).ph,_,_,((N.nd.set i (Hz x h o e)).getD k Bo).pl.map _⟩:fG)=⟨(N.nd.getD k Bo).ph,_,_,(N.nd.getD k Bo).pl.map _⟩
    rw [EN s,θ (λe=>v (by rw [e]))]
   | e k=>
    show (⟨((N.nd.set i (Hz x h o e)).getD k Bo).eh,_,_,((N.nd.set i (Hz x h o e)).getD k Bo).ef.map _⟩:fG)=⟨(N.nd.getD k Bo).eh,_,_,(N.nd.getD k Bo).ef.map _⟩
    rw [EN s,Pk t k Bo]
    split<;>rfl) A Z w
 refine l.putNd t B C ⟨(l.e x (ϑ t)).1,λz u=>?_⟩;rcases ν.1 u with u | u
 .exact (l.e x (ϑ t)).2 z u
 .rw [ζ.1 u];exact y
theorem Bx.addQ (s:Bx f g c a N M) (v:N.po[k]? =some y) {i:Nat} (A:i<N.nd.length) (B:BZ M y.qh h=none) (x:((y.q++ [i]).map λi=>BH (c i)).length<=o):
  Bx f g c a {N with po:=N.po.set k (KR y h o i)} (BJ (BJ (BZ M y.qh) h (.row bC 1 o ((y.q++ [i]).map λi=>BH (c i)))) (a k) (UU (KR y h o i))):=by
 have u:=(φ.1 v).1
 obtain ⟨D,C⟩:=s.row (N':={N with po:=N.po.set k (KR y h o i)}) (.q k) (w0:=⟨y.qh,bC,1,y.q.map λi=>BH (c i)⟩) (w1:=⟨some (h,o),bC,1,(y.q++ [i]).map λi=>BH (c i)⟩)
  (by show (⟨(N.po.getD k CI).qh,_,_,(N.po.getD k CI).q.map _⟩:fG)=_;rw [Gp v])
  (by show (⟨((N.po.set k (KR y h o i)).getD k CI).qh,_,_,((N.po.set k (KR y h o i)).getD k CI).q.map _⟩:fG)=_;rw [EN u,ϱ rfl];rfl)
  (λr w=>by
   cases r with
   | e l=>rfl
   | p l=>rfl
   | n=>rfl
   | m=>show (⟨_,_,_,(List.range (N.po.set k (KR y h o i)).length).map _⟩:fG)=_;rw [fq];rfl
   | q l=>
    show (⟨((N.po.set k (KR y h o i)).getD l CI).qh,_,_,((N.po.set k (KR y h o i)).getD l CI).q.map _⟩:fG)=⟨(N.po.getD l CI).qh,_,_,(N.po.getD l CI).q.map _⟩
    rw [EN u,θ (λe=>w (by rw [e]))]) B Z x
 refine s.putPo v C D λz t=>?_;rcases ν.1 t with t | t
 .exact s.q y (ϑ v) z t
 .rw [ζ.1 t];exact A
def EW (x:Nd):Nd:={x with eh:=none,ph:=none}
def CR (y:Po):Po:={y with qh:=none}
def Ao (N:fC):fC:=⟨N.nd.map EW,N.po.map CR,none,none⟩
def pB (x:Nd) (j:Nat) (n:Nat) (a:Int):Nd:={x with ef:=x.ef++ [(j,a)],pl:=if a<0 then x.pl++ [(j,n)] else x.pl}
def pA (y:Po) (i:Nat) (a:Int):Po:={y with sum:=y.sum+a,q:=if a<0 then y.q++ [i] else y.q}
theorem Bx.keepE (k:Bx f g c a N M) (r:N.nd[i]? =some x) (y:BZ M x.eh h=none) (o:M s=some (.cells t j)):BJ (BZ M x.eh) h u s=some (.cells t j):=
 gp y o λl w=>by have:=R7 (k.nn i x r).2.1 w;rw [o] at this;cases this
theorem Bx.keepP (k:Bx f g c a N M) (r:N.nd[i]? =some x) (y:BZ M x.ph h=none) (o:M s=some (.cells t j)):BJ (BZ M x.ph) h u s=some (.cells t j):=
 gp y o λl w=>by have:=R7 (k.nn i x r).2.2 w;rw [o] at this;cases this
theorem Bx.keepQ (i:Bx f g c a N M) (r:N.po[k]? =some y) (x:BZ M y.qh h=none) (o:M s=some (.cells t j)):BJ (BZ M y.qh) h u s=some (.cells t j):=
 gp x o λl w=>by have:=R7 (i.pp k y r).2 w;rw [o] at this;cases this
theorem oy {Y mv:Nat} {L v:Nat ->Nat} {N:fC} {M:MF} (h:Bx Y mv L v N M) {i j:Nat} {x:Nd} {y:Po} (u:N.nd[i]? =some x) (O:N.po[j]? =some y) (a:Int) (ha: -100000000000000000<=a/\a<=100000000000000000) (hs: -1000000000000000000<=y.sum/\y.sum<=1000000000000000000) (he:x.ef.length<=100000) (hp:x.pl.length<=100000) (hq:y.q.length<=100000):
  AJ prog 144 [.d (pD (L i) 0),.d (pD (v j) 0),.d (AF a)] (HN M) λr H'=>r= .tup []/\∃K M',H'=HN M'/\Bx Y mv L v K M'/\K.nh=N.nh/\K.mh=N.mh/\(∃X,K.nd=N.nd.set i X/\EW X=EW (pB x j y.q.length a))/\∃y',K.po=N.po.set j y'/\CR y'=CR (pA y i a):=by
 have A:=h.n i x u;have P:=(h.nn i x u).2.1;have hrp:=(h.nn i x u).2.2;have D:=(φ.1 u).1;have t:=(φ.1 O).1;have Q:=UP (h.pp j y O).2;refine As func144 Z Z ntmps144 Z Z Z λF W=>?_;refine AC (AE (dd Z Z (dd Z Z (J (DN Z Z) (J (CM Z KA Z Z Z) (J (D4 (f:=40) Z Z (A) Z WZ Z) (dd Z Z (dd Z Z ?_))))))));refine J (Fe Z0 sC Z Z Z) (V (D6 1 mp Z Z Z Z Z Z Z Z) (V (G5 10 60 40 P Z Z (by simp) Z Z Z Z Z (H1 (emb:=dC v) x.ef [(j,a)] Z Z Z Z Z Z Z Z mp (by simp only [Φ];omega) Z Z Z Z)) (Ei 15 60 40 W Z Z Z (by simp) (by simp) Z Z Z Z Z Z Z (λ_ _=>rfl) λb1 c1 H T=>(J (DN Z Z) (J (CM Z KA Z Z Z) (V (Or (f:=40) Z Z Z Z (h.keepE u H A) ((by show _<9;omega)) Z rO) (AD (AC ?_))))))));have I:=h.addE u (j,a) t H T;have w:=I.p j y O;refine AE (dd Z Z (J (DN Z Z) ?_));refine J (CM Z Jy Z Z Z) (J (D4 (f:=40) Z Z (w) Z Km Z) (dd Z Z (J (Ar Z Z (Ω _ (by omega)) Z) (J (DN Z Z) (J (CM Z Jy Z Z Z) (V (Or (f:=40) Z Z Z Z (w) ((by show _<10;omega)) Z tS) (AD (AC ?_))))))));have b:=I.setPo (y':={y with sum:=y.sum+a}) O Z Z;have k:(N.nd.set i (FO x b1 c1 (j,a)))[i]? =some (FO x b1 c1 (j,a)):=List.getElem?_set_self D;have c:(N.po.set j {y with sum:=y.sum+a})[j]? =some {y with sum:=y.sum+a}:=List.getElem?_set_self t;have s:=b.n i _ k;have z:=b.p j _ c;have C:=(b.nn i _ k).2.2;refine AE (dd Z Z (J (BN Z Z Z) (AD (Ac Z (λg=>?_) (λg=>?_)))))
 .refine AC (DB [[],[],[1],[1,2],[1,2,3],[],[],[6],[6,7],[6,7,8],[6,7,8,9],[5,6,7,8,9,10],[5,6,7,8,9,10,11],[1,2,3,4,5,6,7,8,9,10,11,12],rg 14,rg 15,rg 16] mixed Z (DP (Av 0 Z Z ?_)));refine Av 0 Z Z (AQ [29] Z (DN Z Z) (AQ [30] Z (CM Z Jz Z Z Z) (CK [31] [40] Z Z (λ_=>A5 (D4 (f:=40) Z Z (s) Z WY Z)) (Av 1 Z Z (Av 1 Z Z (AQ [34] Z (DN Z Z) (AQ [35] Z (CM Z Gw Z Z Z) (CK [36] [40] Z Z (λ_=>A5 (D4 (f:=40) Z Z (z) Z GH Z)) ?_))))))));refine AQ [37] Z (Vk Q Z R3 Z) (AQ [33,38] Z (Fe Vn rx Z Z Z) (Fp [39] [2] [(40,_)] Z Z (λ_=>Fs (D6 2 mo Z Z Z Z Z Z Z Z)) (.inr ⟨40,_,Z,Z,Z,Z,Z⟩) Z Z Z Z Z (Fp [32,40] [61,40,2] [(41,_)] Z Z (λ_=>Fs (G5 32 61 40 C Z Z (by simp [FO]) Z Z Z Z Z (H1 (emb:=jJ v) x.pl [(j,y.q.length)] Z Z Z Z Z Z Z Z mo (by simp only [Φ];omega) Z Z Z Z))) (.inr ⟨41,_,Z,Z,Z,Z,Z⟩) Z Z Z Z Z (Cg 14 Z Z Z (Ag 15 Z Z (Ei 41 61 40 W Z Z Z (by simp) (by simp) Z Z Z Z Z Z Z (λ_ _=>rfl) λb2 c2 G S=>(J (DN Z Z) (AD ⟨Z,?_⟩))))))));refine Ag 16 Z Z (J (CM Z Jz Z Z Z) (AD ⟨Z,?_⟩));refine Ag 17 Z Z (V (Or (f:=40) Z Z Z Z (b.keepP k G s) ((by show _<9;omega)) Z rN) (AD ⟨Z,?_⟩));refine Cr ?_;have l:=b.addP k (j,y.q.length) (by show j<(N.po.set j _).length;rw [fq];exact t) G S;have o:=l.p j _ c;have B:=(l.pp j _ c).2;refine AE (dd Z Z (dd Z Z (J (DN Z Z) (J (CM Z Gw Z Z Z) ?_))));refine J (D4 (f:=40) Z Z (o) Z GH Z) (dd Z Z (V (D6 3 WK Z Z Z Z Z Z Z Z) (V (G5 48 62 40 B Z Z (by simp) Z Z Z Z Z (H1 (emb:=λi=>BH (L i)) y.q [i] Z Z Z Z Z Z Z Z WK (by simp only [Φ];omega) Z Z Z Z)) (Ei 51 62 40 W Z Z Z (by simp) (by simp) Z Z Z Z Z Z Z (λ_ _=>rfl) λb3 c3 E R=>(J (DN Z Z) (J (CM Z Gw Z Z Z) (V (Or (f:=40) Z Z Z Z (l.keepQ c E o) ((by show _<10;omega)) Z me) (AD ?_))))))));have U:=l.addQ c (i:=i) (by show i<((N.nd.set i _).set i _).length;rw [fq,fq];exact D) E R;exact ⟨_,[40],_,A3 Z,Z,Z,Z,_,_,Z,U,Z,Z,⟨_,List.set_set _,by unfold EW Hz FO pB;simp [g]⟩,⟨_,List.set_set _,by unfold CR KR pA;simp [g]⟩⟩
 .refine AZ ?_;exact ⟨_,[40],_,A3 Z,Z,Z,Z,_,_,Z,b,Z,Z,⟨_,Z,by unfold EW FO pB;simp [g]⟩,⟨_,Z,by unfold CR pA;simp [g]⟩⟩
end Go.Proofs.YteifpcnphnhaoaaGreat
