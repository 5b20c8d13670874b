import Derived.Test.YteifpcnphnhaoaaGreatMg27
open Go.Proofs.Tryz
namespace Go.Proofs.YteifpcnphnhaoaaGreat
open Go.RowKit Go.Shelf
variable {S:List Int} {E:List (AI×Nat)} {a:List Int} {N:MF} {k:Nat} {c:AT} {f:Nat} {g:fj} {h:Nat} {i:AI}
set_option maxRecDepth 100000
abbrev vF:FuncId:=90
def T0 (S:List Int) (x:Int):Bool:=!decide (x∈S)
theorem Sw {N:MF} {c b:Nat} {S:List Int} (a:N c=some (.cells 124 [PW b])) (g:HE N b S) (id:Int):
  AO prog vF [.d (AF id),.d (pD c 0)] [(41,[.multi N])] λr h=>r= .d (Ah (T0 S id))/\h=[(41,[.multi N])]:=by
 refine At func90 Z Z ntmps90 Z Z Z λF i=>(AC (AE (AB Z Z (AD ?_))));refine AC (AE (J (EE (f:=41) Z Z a Z TR Z) (fZ Z Z (V (Uy (EG g id) Z [41] ⟨Z,trivial⟩ Z Z Z Z Z Z Z Z Z) (J (Jw Z Z) (AB Z Z (AD (A4 ?_))))))));exact ⟨_,[41],_,A2 Z,Z,Z,by unfold T0;simp,Z⟩
abbrev ll (b7:Nat):D:= .fn vF [] [pD b7 0]
theorem qD (o:N f=some (.cells 124 [PW h])) (v:HE N h S) (l:List Int) (y:l.length<=100000):
  AO prog 138 [.d (Ga l),.d (ll f)] [(41,[.multi N])] λr w=>r= .d (AF (Kc (T0 S) l))/\w=[(41,[.multi N])]:=by
 refine At func138 Z Z ntmps138 Z Z Z λF t=>(AC (AE (AB Z Z (AD ?_))));refine AC (AC (AE (fZ Z Z (J (Ba Z ch Z) (fZ Z Z (AD (AZ (BO (α:=Nat) (λk=>⟨19,[(0,.d (Ga l)),(1,.d (ll f)),(7,(.d (AF (l.length:Int)))),(8,(.d (AF (k:Int))))],[(41,[.multi N])]⟩) (λk=>k<=l.length/\∀x∈l.take k,T0 S x=false) (λk=>l.length - k) (0) (⟨ζ _,by simp⟩) (AY t [41] Z Z E0) ?_))))))));rintro k ⟨u,j⟩;refine AC (AE (J (BB Z Z Z) (AD (AC (A9 Z (λs=>?_) (λs=>?_))))))
 .have g:k<l.length:=BR s;refine AX (AC (AZ (AC (AE (fZ Z Z (AB Z Z (AD (AC ?_))))))));refine AE (fZ Z Z (fZ Z Z (fZ Z Z (J (BJ (k) Z Z (Z) (A5 g) ch Z BU Z) (J (CI Z Z An Z) (V (Uy (Sw o v l[k]) Z [41] ⟨Z,trivial⟩ Z Z Z Z Z Z Z Z Z) (AD (Iq Z (λi=>?_) (λi=>?_)))))))))
  .refine AC (AE (fZ Z Z (AB Z Z (AD (A4 ?_)))));exact ⟨_,[41],_,A2 Z,Z,Z,Ab (by unfold Kc;rw [GO g j (by simpa using i)]),Z⟩
  .refine AX (AE (J (Al Z Z (AM (k+1) (by omega)) Z) (fZ Z Z (AD ?_))));exact ⟨k+1,⟨by show k+1<=_;omega,by rw [ψ g];intro x c;rcases υ.1 c with c | c;exact j x c;rw [η.1 c];simpa using i⟩,by show l.length - (k+1)<l.length - k;omega,AY t [41] Z (Z) E0⟩
 .refine Aw (AC (AE (AB Z Z (AD (A4 ?_)))));exact ⟨_,[41],_,A2 Z,Z,Z,Ab (by unfold Kc;rw [Hh (λx c=>j x (by rw [κ (by have a:=s;omega)];exact c))]),Z⟩
def Mc (S l:List Int):List Int:=l.filter λx=>!T0 S x
theorem X0 (h:∀x∈a,T0 S x=false):Mc S a=a:=List.filter_eq_self.2 λx b=>by rw [h x b];rfl
theorem cz (b:k<a.length) (h:T0 S a[k]=false):Mc S (a.take (k+1))=Mc S (a.take k)++ [a[k]]:=by
 unfold Mc;rw [En b,ϱ (by rw [h];rfl)]
theorem R4 (b:k<a.length) (h:T0 S a[k]=true):Mc S (a.take (k+1))=Mc S (a.take k):=by grind [Mc,En]
theorem Vm (S l:List Int):(Mc S l).length<=l.length:=gz _ _
theorem q5 (X:∀h m,N h=some m ->m.FlatM) (K:N f=some (.cells 124 [PW h])) (W:HE N h S) (l:List Int) (hl:l.length<=100000):AO prog 88 [.own 930 0 l.length,.d (ll f)] [(930,[.rowD 3 1 (l.map AF)]),(41,[.multi N])] λr H'=>r= .own 930 0 (Mc S l).length/\H'=[(930,[.rowD 3 1 ((Mc S l++List.replicate (l.length - (Mc S l).length) 0).map AF)]),(41,[.multi N])]:=by
 have s:=qD K W l hl
 cases hfi:l.findIdx? (T0 S) with
 | none=>
  have L:∀x∈l,T0 S x=false:=λx O=>by have:=List.findIdx?_eq_none_iff.1 hfi x O;simpa using this
  have g:Kc (T0 S) l= -1:=by unfold Kc;rw [hfi]
  rw [g] at s;have D:=X0 L;refine At func88 Z Z ntmps88 Z Z Z λF M=>(AC (AE (AB Z Z (AD (AC (AE ?_))))));refine fZ Z Z (fZ Z Z (V (Pz [930] s (by exact ⟨.inr ⟨_,_,Z,.own Z Z (by simp) (κ (by simp)),Z⟩,.inl Z,trivial⟩) Z X ⟨Z,trivial⟩ Z Z Z Z Z Z Z) (AB Z Z (AD (AC (AC (AE (fZ Z Z ?_))))))));refine J (GF Z Z Z) (AD (Bx Z (Z) (AC (AE (fZ Z Z (AB Z Z (AD (A4 ?_))))))));exact ⟨_,[930,41],_,A2 Z,Z,Z,by rw [D],by rw [D];simp⟩
 | some v=>
  obtain ⟨Q,E,G⟩:=List.findIdx?_eq_some_iff_getElem.1 hfi;have g:Kc (T0 S) l=(v:Int):=by unfold Kc;rw [hfi]
  rw [g] at s
  have C:∀x∈l.take v,T0 S x=false:=λx O=>by
   obtain ⟨j,hj,rfl⟩:=jX.1 O;have:=G j (by omega)
   simpa using this
  have P:Mc S (l.take (v+1))=l.take v:=by rw [R4 Q E,X0 C]
  refine At func88 Z Z ntmps88 Z Z Z λF M=>(AC ?_);refine AE (AB Z Z (AD (AC (AE (fZ Z Z (fZ Z Z (V (Pz [930] s (by exact ⟨.inr ⟨_,_,Z,.own Z Z (by simp) (κ (by simp)),Z⟩,.inl Z,trivial⟩) Z X ⟨Z,trivial⟩ Z Z Z Z Z Z Z) (AB Z Z ?_))))))));refine AD (AC (AC (AE (fZ Z Z (J (GF Z Z Z) (AD (Cm Z ((gV (by omega))) (AX ?_))))))));refine AC (AC (AE (fZ Z Z (J (Al Z Z (AM (v+1) (by omega)) Z) (AB Z Z (AD (AZ (BO (α:=Nat×Nat×List Int) (λq=>⟨42,[(0,(.own 930 0 l.length)),(1,(.d (ll f))),(5,(.d (AF (q.1:Int)))),(6,(.d (AF (q.2.1:Int))))],[(930,[.rowD 3 1 (q.2.2.map AF)]),(41,[.multi N])]⟩) (λq=>q.2.1<=l.length/\q.1<q.2.1/\q.2.2.length=l.length/\q.2.2.take q.1=Mc S (l.take q.2.1)/\q.2.2.drop q.2.1=l.drop q.2.1) (λq=>l.length - q.2.1) ((v,v+1,l)) (⟨by show v+1<=_;omega,io _,Z,P.symm,Z⟩) (AY M [930,41] Z Z E0) ?_))))))));rintro ⟨i,j,c⟩ ⟨T,U,k,t,u⟩;dsimp only at T U k t u⊢;refine AC (AC (AE (fZ Z Z (fZ Z Z (J (Qp Z ch Z) (J (BB Z Z Z) (AD (A9 Z (λB=>?_) (λB=>?_)))))))))
  .have o:j<l.length:=BR B;refine AX (AC (AZ (AC (AE ?_))));have H:j<c.length:=by omega
   have z:c[j]=l[j]:=by have Y:(c.drop j)[0]? =(l.drop j)[0]?:=by {rw [u]};rw [j1,j1,iT,ω H,ω o] at Y;injection Y
   refine fZ Z Z (fZ Z Z (J (DB (j) Z Z (Z) (o) Z ch BU Z) (J (EA Z Z (A5 H) Z An Z) (AB Z Z ?_))));refine AD (AC (AE (fZ Z Z (fZ Z Z (V (Uy (Sw K W c[j]) Z [41] ⟨Z,trivial⟩ Z Z Z Z Z Z Z Z Z) (J (Mp Z Z) (AD (Iq Z (λA=>?_) (λA=>?_)))))))))
   .have y:T0 S l[j]=false:=by rw [<-z];simpa using A
    refine AC (AE (fZ Z Z (fZ Z Z (fZ Z Z (J (DB (i) Z Z (Z) ((by omega)) Z ch BU Z) (V (FU (c) (c[j]) Z Z Z Z Z Z (by omega) Z BU) (AD (AE ?_))))))));refine fZ Z Z (J (Al Z Z (AM (i+1) (by omega)) Z) (AB Z Z (AD (AE (fZ Z Z (J (Al Z Z (AM (j+1) (by omega)) Z) (AB Z Z (AD ?_))))))));exact ⟨(i+1,j+1,_),⟨by show j+1<=_;omega,by show i+1<j+1;omega,by show (c.set i c[j]).length=_;rw [gp];exact k,by show (c.set i c[j]).take (i+1)=Mc S (l.take (j+1));rw [cz o y,<-t,ψ (by rw [gp];omega),List.getElem_set_self,List.take_set_of_le (Γ i),z],by show (c.set i c[j]).drop (j+1)=l.drop (j+1);rw [List.drop_set_of_lt (by omega),<-List.tail_drop,<-List.tail_drop,u]⟩,by show l.length - (j+1)<l.length - j;omega,AY M [930,41] Z (Z) E0⟩
   .have y:T0 S l[j]=true:=by rw [<-z];simpa using A
    refine AX (AE (fZ Z Z (J (Al Z Z (AM (j+1) (by omega)) Z) (AB Z Z (AD ?_)))));exact ⟨(i,j+1,c),⟨by show j+1<=_;omega,by show i<j+1;omega,k,by show c.take i=Mc S (l.take (j+1));rw [R4 o y,t],by show c.drop (j+1)=l.drop (j+1);rw [<-List.tail_drop,<-List.tail_drop,u]⟩,by show l.length - (j+1)<l.length - j;omega,AY M [930,41] Z (Z) E0⟩
  .refine Aw (AC ?_);have R:j=l.length:=by have a:=B;omega
   have w:c.take i=Mc S l:=by rw [t,R,gc]
   have I:i=(Mc S l).length:=by rw [<-w,ϖ];omega
   refine AE (fZ Z Z (fZ Z Z (Mb (emb:=AF) (zd:=0) c i Z Z Z Z k.symm Z (by omega) ch BU zeroValue3 Z Z Z Z Z Z ?_)));refine AD (AC (AE (fZ Z Z (fZ Z Z (J (Gf (i) Z Z Z (by simp only [χ,Δ,ϖ,List.length_replicate];omega) Z ch BU Z) (AB Z Z (AD (A4 ?_))))))));exact ⟨_,[930,41],_,A2 Z,Z,Z,by rw [<-I],by rw [w,k,I]⟩
def Qu (N:MF):Prop:=∀b m,N b=some m ->m.FlatM
theorem Vy:Qu λ_=>none:=λ_ _ h=>nomatch h
theorem Gw {b:Nat} {o:Ak} (h:Qu N) (a:o.FlatM):Qu (BZ N b o):=by grind [Qu,BZ]
theorem d5 {b:Option (List Nat×Nat)} {l:List (Int×Bool)}:(Ak.map b (BY AF Ah l)).FlatM:=λe a=>by
 obtain ⟨x,_,rfl⟩:=Θ.1 a;exact ⟨Z,Z⟩
theorem YI (l:List Int) (t:l.Nodup) (z:l.length<=1000000):AO prog 66 [.d (.sl none (l.map AF))] [] λr x=>∃b N,r= .d (PW b)/\x=[(41,[.multi N])]/\HE N b l/\Qu N:=by
 refine At func66 Z Z ntmps66 Z Z Z λF j=>(AC (AE (AB Z Z (AD ?_))));refine AC (Ht 41 Z Z Z (AE (V (PY 1 Z Z Z Z) (Ll 6 1 41 j Z Z Z Z Z Z Z Z Z Z (λ_=>rfl) λm y=>(JE 41 m Z (Fu _ _ _) Z (V (By 2 aJ Z Z Z Z) (V (B3 Z Z Z Z Z Z Z ab) (AD ?_))))))));refine AC (AC (AE (fZ Z Z (J (Ba Z ch Z) (fZ Z Z (AD (AZ (BO (α:=Nat×MF) (λq=>⟨17,[(3,(.ptr 2 0 0)),(7,(.d (.sl none (l.map AF)))),(8,(.d (AF (l.length:Int)))),(9,(.d (AF (q.1:Int))))],[(2,[.blk 137 [.d (mD m)]]),(41,[.multi q.2])]⟩) (λq=>q.1<=l.length/\q.2 m=some (.map none (BY AF Ah (BN (l.take q.1))))/\Qu q.2) (λq=>l.length - q.1) ((0,_)) (⟨ζ _,Fu _ _ _,by exact Gw (Gw Vy (by intro e s;cases s)) (by intro e s;cases s)⟩) (AY j [2,41] Z Z E0) ?_))))))));rintro ⟨k,N⟩ ⟨u,i,g⟩;dsimp only at u i g⊢;refine AC (AE (J (BB Z Z Z) (AD (AC (A9 Z (λh=>?_) (λh=>?_))))))
 .refine AX (AC (AZ (AC ?_)));have a:k<l.length:=BR h;refine AE (J (BJ (k) Z Z (Z) (A5 a) ch Z BU Z) (J (CI Z Z An Z) (AB Z Z (AD ?_))));refine AE (J (AP Z Z Z QP Z) (fZ Z Z (V (Ns (f:=41) (BN (l.take k)) l[k] true Z Z i Z Ek IF Z Z) (AD (AE (J (Al Z Z (AM (k+1) (by omega)) Z) (fZ Z Z (AD ?_))))))));exact ⟨(k+1,_),⟨a,by show BZ _ _ _ _=_;rw [Fu,ψ a,Zx (KZ t a)],Gw g d5⟩,by show l.length - (k+1)<l.length - k;omega,AY j [2,41] Z (Z) E0⟩
 .refine Aw (AC ?_);have o:k=l.length:=by have:=h;omega
  rw [o,gc] at i;refine fJ (ds:=[mD m]) 3 2 41 j Z Z Z Z Z Z Z Z Z Z Z (λ_=>rfl) λb w=>(AE (J (Xy (ds:=[]) (es:=[pD b 0]) Z Z Z Z Z) (AB Z Z (AD (A4 ?_)))));exact ⟨_,[41],_,A2 Z,Z,Z,b,_,Z,Z,⟨m,Fu _ _ _,by rw [Hu (λe=>by rw [e,w] at i;cases i)];exact i⟩,Gw g (λc v=>by rw [η.1 v];rfl)⟩
def Hw (p:fj) (S:List Int) (r:AT):Prop:=∃i,i∈p.it/\i.id∈S/\r∈(dR (ft p) i).map Prod.fst
def Gi (l:List Int) (i:AI):AI:=⟨i.id,i.pr,i.sq,i.po,i.pa,Mc l i.af⟩
noncomputable def gO (p:fj) (S:List Int):fj:=⟨p.ro.filter λx=>dec (Hw p S x.r),(p.it.filter λi=>decide (i.id∈S)).map (Gi S)⟩
def MY (rs:List AT) (E:List (AI×Nat)) (k:Nat) (r:AT):Prop:=∃i,i<k/\r∈(dR rs (DJ E i)).map Prod.fst
theorem YM (h:E.map Prod.fst=(fk g).filter λi=>decide (i.id∈a)) (b:∀i,i∈fk g↔i∈g.it):MY (ft g) E E.length c↔Hw g a c:=by
 constructor
 .grind [pz,MY,Hw]
 .rintro ⟨x,k,f,o⟩;have t:x∈E.map Prod.fst:=by rw [h,gS];exact ⟨(b _).2 k,by simpa using f⟩
  obtain ⟨e,s,rfl⟩:=Θ.1 t;obtain ⟨i,j,rfl⟩:=ii.1 s;exact ⟨i,j,by rw [SJ j];exact o⟩
theorem VF {a:List AT}:MY a E (k+1) c↔MY a E k c\/c∈(dR a (DJ E k)).map Prod.fst:=by grind [MY]
set_option maxHeartbeats 4000000 in
theorem V3 (p:fj) (l:List Int) (hf:Fw p) (hl:l.length<=100000) (hC:CX p l=0) (hE:Az p=0) (hn:l.Nodup):AK prog 34 [.d (Bq p),.d (Ga l)] (.tup [Bq (gO p l),AF 0]):=by
 have hi30:=hf.i;have hr100:=hf.r;have hck:=JQ p l hf.b hl (by omega);rw [hC] at hck;have hxm:∀i,i∈fk p↔i∈p.it:=λi=>by rw [show fk p=BK p.it from ϱ hE];exact (Zs p.it).mem_iff
 have hol:(fk p).length<=30:=by rw [show fk p=BK p.it from ϱ hE,aA];exact hi30
 refine At func34 Z Z ntmps34 Z Z Z λF j=>(AC (AE (V (Bo 1 Z Z Z Z Z Z Z) (V (By 2 P3 Z Z Z Z) (AB Z Z (AD ?_))))));refine AC (AC (AE (J (Ay Z Z Bl Z Z Z) (fZ Z Z (J (As (hck) Z Z) (AB Z Z (AD (AC ?_))))))));refine AE (fZ Z Z (J (Cw Z Z Z) (AD (Cm Z (gV (by decide)) (AX (AC (AE (fZ Z Z ?_))))))));refine C6 (VA (YI l hn (by omega)) Z [41] ⟨Z,trivial⟩ Z Z Z Z (λr H' ⟨b,N,O,K,_⟩=>by subst O K;exact ⟨Z,Z,Z⟩) Z) Z ?_;rintro _ ⟨r,H',⟨b,N0,O,K,hW0,hFl0⟩,rfl⟩;subst O K;refine V (By 7 aK Z Z Z Z) (V (B3 Z Z Z Z Z Z Z ac) (AD (AC (fJ (ds:=[PW b]) 7 7 41 j Z Z Z Z Z Z Z Z Z Z Z (λ_=>rfl) λv hb7=>?_))));have hW:=hW0.put (o:= .cells 124 [PW b]) hb7;have hFl:=Gw (b:=v) (o:= .cells 124 [PW b]) hFl0 (λc hc=>by rw [η.1 hc];rfl);have s:=Fu N0 v (.cells 124 [PW b])
 obtain ⟨N,hNe⟩:∃N,BZ N0 v (.cells 124 [PW b])=N:=⟨_,Z⟩
 rw [hNe] at hW hFl s;rw [hNe];refine AE (V (PY 50 Z Z Z Z) (AB Z Z (AD (AC (AC (AE (J (Ay Z Z Bl Z Z Z) (J (EE (f:=41) Z Z s Z TR Z) ?_))))))));refine C6 (VA (MI p hE hf WF [pD b 0] N (λid=>decide (id∈l)) (EG hW)) Z [41,40] ⟨Z,Z,trivial⟩ Z Z Z Z (λr H' ⟨E,M,O,K,_⟩=>by subst O K;exact ⟨Z,Z,Z⟩) Z) Z ?_;rintro _ ⟨r,H',⟨E,M,O,K,hR,hEq⟩,rfl⟩;subst O K;refine J (JZ Z (χ ..) fT Z) (fZ Z Z (AD (AZ (BO (α:=Nat×List (AT×Bool)) (λq=>⟨97,[(2,(.ptr 1 0 0)),(4,(.ptr 2 0 0)),(7,(.d (pD v 0))),(8,(.map 50 0)),(29,(.d (.sl none (E.map Cr)))),(30,(.d (AR E.length))),(31,(.d (AR q.1)))],[(1,[.blk 39 [.d (.sl none (p.ro.map Bv)),.d (.sl none (p.it.map Ag))]]),(2,[.blk 39 [.d Cy,.d Cy]]),(50,[BT Bc Ah q.2]),(41,[.multi N]),(40,[.multi M])]⟩) (λq=>q.1<=E.length/\∀r,Aa q.2 r false=true↔MY (ft p) E q.1 r) (λq=>E.length - q.1) ((0,[])) (⟨ζ _,λr=>⟨(λh=>by simp [Aa] at h),λ⟨i,h,_⟩=>absurd h (Nat.not_lt_zero i)⟩⟩) (AY j [1,2,50,41,40] Z Z Ri) ?_))));rintro ⟨k,U⟩ ⟨Y,w⟩;dsimp only at Y w⊢;refine AC (AE (J (BB Z Z Z) (AD (AC (A9 Z (λH=>?_) (λH=>?_))))))
 .refine AX (AC (AZ (AC ?_)));have a:k<E.length:=BR H;have hE30:E.length<=30:=by have h1:(E.map Prod.fst).length<=(fk p).length:=(by rw [hEq];exact gz _ _);rw [χ] at h1;omega
  have hek:=ξ a;refine AE (J (BJ (k) Z Z (Z) (A5 a) fT Z GH Z) (J (DM Z Z KH Z) (V (By 10 MX Z Z Z Z) (V (B3 Z Z Z Z Z Z Z GH) (AD (AC ?_))))))
  obtain ⟨L,hLe⟩:∃L,dR (ft p) (E[k]).1=L:=⟨_,Z⟩
  have y:=hR _ hek;rw [hLe] at y;refine MS 40 (E[k]).2 Z y (λ_ _=>rfl) λB c hB hBn=>?_
  obtain ⟨M1,z⟩:∃M1,BZ M (E[k]).2 (.map (some (B,c)) (Jn L))=M1:=⟨_,Z⟩
  rw [z];have t:M1 (E[k]).2=some (.map (some (B,c)) (Jn L)):=by rw [<-z,Fu]
  refine AE (J (AN Z Ky Z Z Z) (J (AP Z Z Z TQ Z) (V (LV 5 (f:=40) Z Z t Z CL Z Z Z Z) (AD (AZ (BO (α:=List Nat×List (AT×Int)×List (AT×Bool)) (λq=>⟨97,[(2,(.ptr 1 0 0)),(4,(.ptr 2 0 0)),(7,(.d (pD v 0))),(8,(.map 50 0)),(29,(.d (.sl none (E.map Cr)))),(30,(.d (AR E.length))),(31,(.d (AR k))),(37,(.ptr 5 0 0))],[(5,[.iter 40 (E[k]).2 c q.1]),(1,[.blk 39 [.d (.sl none (p.ro.map Bv)),.d (.sl none (p.it.map Ag))]]),(2,[.blk 39 [.d Cy,.d Cy]]),(50,[BT Bc Ah q.2.2]),(41,[.multi N]),(40,[.multi M1])]⟩) (λq=>(q.2.1++Bz L B q.1).Perm L/\∀r,Aa q.2.2 r false=true↔MY (ft p) E k r\/r∈q.2.1.map Prod.fst) (λq=>(Bz L B q.1).length) (([],[],U)) (⟨by show ([]++Bz L B []).Perm L;rw [nG (by simpa [BY] using hB)];exact List.Perm.refl _,λr=>by show Aa U r false=true↔_;rw [w r];simp⟩) (AY j [5,1,2,50,41,40] Z Z S1) ?_))))));rintro ⟨seen,acc,U⟩ ⟨hP,w⟩;dsimp only at hP w⊢;refine AC (AE (RZ (L) Z Z Z (t) Z (λS=>?_) (λj38 P g v38 R hb38 hB38 u=>⟨_,Z,?_⟩)))
  .rw [S] at hP;have vC:∀r,Aa U r false=true↔MY (ft p) E (k+1) r:=λr=>by rw [VF,w r,SJ a,hLe];exact or_congr Iff.rfl ((show acc.Perm L by simpa using hP).map Prod.fst).mem_iff
   refine JE 40 (E[k]).2 Z t Z ?_;rw [show BZ M1 (E[k]).2 (.map none (Jn L))=M by rw [<-z,Fl];exact Lo y];refine J (DC Z Z Z) (AD (AC (Cm Z Z (Aw (AE (J (Al Z Z (AM (k+1) (by omega)) Z) (fZ Z Z (AD ?_))))))));exact ⟨(k+1,U),⟨a,vC⟩,by show E.length - (k+1)<E.length - k;omega,AY j [1,2,50,41,40] Z (Z) Ri⟩
  .refine J (DC Z Z Z) (AD (AC (Bx Z Z (AX (AZ (AC (AE (J (LW (L) j38 P Z Z Z (t) R hb38 Z) ?_))))))));refine J (DC Z Z Z) (V (By 11 Jy Z Z Z Z) (V (B3 Z Z Z Z Z Z Z YS) (AD (AE (fZ Z Z (J (Ay Z Z Cc Z Z Z) (V (Uo (U) (g) (true) Z Z Z QV CV Z Z) (AD ?_))))))));exact ⟨(seen++ [P],acc++ [(g,v38)],BS U g true),⟨Gm hP u,λr=>by show Aa (BS U g true) r false=true↔_;rw [Gs,Ω,υ];by_cases e:r=g<;>simp [e,w r]⟩,by show (Bz L B (seen++ [P])).length<(Bz L B seen).length;rw [u.length_eq];exact io _,AY j [5,1,2,50,41,40] Z (Z) S1⟩
 .refine Aw (AC ?_);have hke:k=E.length:=by have:=H;omega
  have Q:∀r,Aa U r false=dec (Hw p l r):=λr=>by rw [ju,FQ,w r,hke];exact YM hEq hxm
  refine AE (V (By 12 P3 Z Z Z Z) (AD (AC (AC ?_))));refine Zw 12 0 0 901 My Z Z Z Z Z Z Z (AE (J (AN Z Dx Z Z Z) (J (AP Z Z Z ON Z) (J (Ba Z fU Z) (fZ Z Z (AD (AZ (BO (α:=Nat×List Ac) (λq=>⟨97,[(2,(.ptr 1 0 0)),(4,(.ptr 2 0 0)),(7,(.d (pD v 0))),(8,(.map 50 0)),(12,(.ptr 12 0 0)),(46,(.d (.sl none (p.ro.map Bv)))),(47,(.d (AR p.ro.length))),(48,(.d (AR q.1)))],[(901,[.rowD 88 7 (q.2.map Bv)]),(12,[.blk 39 [.own 901 0 q.2.length,.d Cy]]),(1,[.blk 39 [.d (.sl none (p.ro.map Bv)),.d (.sl none (p.it.map Ag))]]),(2,[.blk 39 [.d Cy,.d Cy]]),(50,[BT Bc Ah U]),(41,[.multi N])]⟩) (λq=>q.1<=p.ro.length/\q.2=(p.ro.take q.1).filter λx=>dec (Hw p l x.r)) (λq=>p.ro.length - q.1) ((0,[])) (⟨ζ _,Z⟩) (AY j [901,12,1,2,50,41] Z Z S1) ?_))))))));rintro ⟨k,T⟩ ⟨Y,hT⟩;dsimp only at Y hT⊢;refine AC (AE (J (BB Z Z Z) (AD (AC (A9 Z (λG=>?_) (λG=>?_))))))
  .refine AX (AC (AZ (AC ?_)));have a:k<p.ro.length:=BR G;have hTl:T.length<=100:=by have:=gz (λx:Ac=>dec (Hw p l x.r)) (p.ro.take k);rw [<-hT,ϖ] at this;omega
   refine AE (J (BJ (k) Z Z (Z) (A5 a) fU Z Mu Z) (J (DM Z Z VU Z) (V (By 14 Qw Z Z Z Z) (V (B3 Z Z Z Z Z Z Z Mu) ?_))));refine AD (AC (AE (fZ Z Z (J (AN Z Ex Z Z Z) (J (Ay Z Z Cc Z Z Z) (J (II (U) (p.ro[k].r) (false) _ Z Z Z QV CV SX Z Z) (AD (Iq Z (λD=>?_) (λD=>?_)))))))))
   .refine AE (J (AN Z Dx Z Z Z) (J (AP Z Z Z ON Z) (J (Ay Z Z VU Z Z Z) ?_)));refine V (C5 51 My Z Z Z Z Z Z Z Z) (V (F2 (T) ([p.ro[k]]) Z Z Z Z Z Z Z Z My (by simp only [ς];omega) Z Z Z Z) (J (AN Z Dx Z Z Z) (V (B3 Z Z Z Z Z Z Z oh) (AD (AE (J (Al Z Z (AM (k+1) (by omega)) Z) (fZ Z Z (AD ?_))))))));exact ⟨(k+1,T++ [p.ro[k]]),⟨a,by show _=(p.ro.take (k+1)).filter _;rw [ψ a,iP,<-hT,jD,ϱ (by rw [<-Q];exact D)];rfl⟩,by show p.ro.length - (k+1)<p.ro.length - k;omega,AY j [901,12,1,2,50,41] Z (Z) S1⟩
   .refine AX (AE (J (Al Z Z (AM (k+1) (by omega)) Z) (fZ Z Z (AD ?_))));exact ⟨(k+1,T),⟨a,by show _=(p.ro.take (k+1)).filter _;rw [ψ a,iP,<-hT,jD,θ (by rw [<-Q];simpa using D)];simp⟩,by show p.ro.length - (k+1)<p.ro.length - k;omega,AY j [901,12,1,2,50,41] Z (Z) S1⟩
  .refine Aw (AC (AC ?_));have X:k=p.ro.length:=by have:=G;omega
   have hTf:T=p.ro.filter λx=>dec (Hw p l x.r):=by rw [hT,X,gc]
   refine Zy (ys:=T.map Bv) 12 0 0 901 Z Z Z (by simp) (κ (by simp)) Z Z Z Z Z Z ?_;refine Zw 12 0 1 902 LY Z Z Z Z Z Z Z (AE (J (AN Z DA Z Z Z) (J (AP Z Z Z JV Z) (J (Ba Z cl Z) (fZ Z Z (AD (AZ (BO (α:=Nat×List AI) (λq=>⟨97,[(2,(.ptr 1 0 0)),(4,(.ptr 2 0 0)),(7,(.d (pD v 0))),(12,(.ptr 12 0 0)),(64,(.d (.sl none (p.it.map Ag)))),(65,(.d (AR p.it.length))),(66,(.d (AR q.1)))],[(902,[.rowD 55 6 (q.2.map Ag)]),(12,[.blk 39 [.d (.sl none (T.map Bv)),.own 902 0 q.2.length]]),(2,[.blk 39 [.d Cy,.d Cy]]),(41,[.multi N])]⟩) (λq=>q.1<=p.it.length/\q.2=((p.it.take q.1).filter λi=>decide (i.id∈l)).map (Gi l)) (λq=>p.it.length - q.1) ((0,[])) (⟨ζ _,Z⟩) (AY j [902,12,2,41] Z Z Ri) ?_))))))));rintro ⟨k,I⟩ ⟨Y,hI⟩;dsimp only at Y hI⊢;refine AC (AE (J (BB Z Z Z) (AD (AC (A9 Z (λC=>?_) (λC=>?_))))))
   .refine AX (AC (AZ (AC ?_)));have a:k<p.it.length:=BR C;have hxk:=hf.x _ (ξ a);have hIl:I.length<=30:=by rw [hI,χ];have:=gz (λi:AI=>decide (i.id∈l)) (p.it.take k);rw [ϖ] at this;omega
    refine AE (J (BJ (k) Z Z (Z) (A5 a) cl Z Co Z) (J (DM Z Z CP Z) (V (By 16 FG Z Z Z Z) (V (B3 Z Z Z Z Z Z Z Co) (AD (AC ?_))))));refine AC (AE (J (EE (f:=41) Z Z s Z TR Z) (J (AN Z PQ Z Z Z) (J (AP Z Z Z An Z) (V (Uy (EG hW p.it[k].id) Z [41] ⟨Z,trivial⟩ Z Z Z Z Z Z Z Z Z) (J (Jw Z Z) (AD (A9 Z (λA=>?_) (λA=>?_)))))))))
    .refine Aw (AE (J (Al Z Z (AM (k+1) (by omega)) Z) (fZ Z Z (AD ?_))));exact ⟨(k+1,I),⟨a,by show _=((p.it.take (k+1)).filter _).map _;rw [ψ a,iP,Ω,<-hI,jD,θ (by simpa using A)];simp⟩,by show p.it.length - (k+1)<p.it.length - k;omega,AY j [902,12,2,41] Z (Z) Ri⟩
    .refine AX (AC (CZ [[],[0],[0,1],[],[3],rg 5,rg 5,rg 7,rg 8,rg 9] mixed Z (CG (AU [16] Z (AN Z G3 Z Z Z) (Au [75] Z Z (λ_=>Ae (AP Z Z Z Vd Z)) (AU [76] Z (As (U1 p.it[k].po (by omega)) Z Z) (AU [16] Z (AN Z Hj Z Z Z) ?_)))))));refine Au [78] Z Z (λ_=>Ae (AP Z Z Z Yu Z)) (CB 5 Z Z Z (CG (AU [79] Z (As (U0 p.it[k].pa (by omega)) Z Z) (AU [16] Z (AN Z G3 Z Z Z) (CB 7 Z Z Z (Ad 8 Z Z (V (B3 Z Z Z Z Z Z Z og) (AD ⟨Z,?_⟩))))))));refine Ad 9 Z Z (J (AN Z Hj Z Z Z) (AD ⟨Z,?_⟩));refine Ad 10 Z Z (V (B3 Z Z Z Z Z Z Z oe) (AD ⟨Z,?_⟩));refine CM (AC (AE (J (AN Z EV Z Z Z) (J (AP Z Z Z BL Z) (V (FE ((U2 p.it[k].af (by omega)).by [(20,930)] Z) Z [930] ⟨Z,trivial⟩ Z Z Z Z Z Z Z Z Z) (J (Xy (ds:=[]) (es:=[pD v 0]) Z Z Z Z Z) ?_))))));refine V (FE (q5 hFl s hW p.it[k].af (by omega)) Z [930,41] ⟨Z,Z,trivial⟩ Z Z Z Z Z Z Z Z Z) (J (AN Z EV Z Z Z) (V (B3 Z Z Z Z Z Z Z DD) (AD (Zy (ys:=(Mc l p.it[k].af).map AF) 16 0 5 930 Z Z Z (by simp) (by rw [Ω,List.take_append_of_le_length (by simp),κ (by simp)]) Z Z Z Z Z Z (AE (J (AN Z DA Z Z Z) (J (AP Z Z Z JV Z) (J (Ay Z Z CP Z Z Z) ?_))))))));refine V (C5 52 LY Z Z Z Z Z Z Z Z) (V (F2 (I) ([Gi l p.it[k]]) Z Z Z Z Z Z Z Z LY (by simp only [ς];omega) Z Z Z Z) (J (AN Z DA Z Z Z) (V (B3 Z Z Z Z Z Z Z k7) (AD (AE (J (Al Z Z (AM (k+1) (by omega)) Z) (fZ Z Z (AD ?_))))))));exact ⟨(k+1,I++ [Gi l p.it[k]]),⟨a,by show _=((p.it.take (k+1)).filter _).map _;rw [ψ a,iP,Ω,<-hI,jD,ϱ (by simpa using A)];rfl⟩,by show p.it.length - (k+1)<p.it.length - k;omega,AY j [902,12,2,41] Z (Z) Ri⟩
   .refine Aw (AC ?_);have W:k=p.it.length:=by have:=C;omega
    have hIf:I=(p.it.filter λi=>decide (i.id∈l)).map (Gi l):=by rw [hI,W,gc]
    refine Zy (ys:=I.map Ag) 12 0 1 902 Z Z Z (by simp) (κ (by simp)) Z Z Z Z Z Z ?_;rw [hTf,hIf];refine AE (J (Ay Z Z Bl Z Z Z) (V (B3 Z Z Z Z Z Z Z YT) (AB Z Z (AD (A4 ?_)))));exact ⟨_,[],_,A2 Z,Z,Z,Z,Z⟩
theorem RL (p:fj) (l:List Int) (f:E1 p) (c:l.length<=100000) (a:p.it.length<=1000) (g:CX p l≠0):AK prog 34 [.d (Bq p),.d (Ga l)] (.tup [.agg [Cy,Cy],AF (CX p l)]):=by
 have b:=JQ p l f c a;refine At func34 Z Z ntmps34 Z Z Z λF h=>(AC ?_);refine AE (V (Bo 1 Z Z Z Z Z Z Z) (V (By 2 P3 Z Z Z Z) (AB Z Z (AD (AC (AC (AE (J (Ay Z Z Bl Z Z Z) ?_))))))));refine fZ Z Z (J (As (b) Z Z) (AB Z Z (AD (AC (AE (fZ Z Z (J (Cw Z Z Z) (AD ?_))))))));refine Bx Z (gQ g) (AC (AE (J (FD P3 pl39 Z Z Z) (fZ Z Z (V (B3 Z Z Z Z Z Z Z YT) (AB Z Z (AD (A4 ?_))))))));exact ⟨_,[],_,A2 Z,Z,Z,Z,Z⟩
theorem SG (l:List Int) (h:Ar i=0):Ar (Gi l i)=0:=by
 obtain ⟨a,w,v,u,o,k,j,g,f⟩:=Fp h
 have c:NC (Gi l i)=0:=by
  obtain ⟨s,r⟩:=Xr.1 j;exact Xr.2 ⟨λx b=>s x (gS.1 b).1,List.Nodup.sublist iw r⟩
 have t:(Mc l i.af).length<=i.af.length:=gz _ _;have A:=a.po;have z:=a.pa;have y:=a.af;unfold Ar;rw [θ (by show ¬(¬(0<=i.id/\i.id<=1000000000)\/¬(0<=i.sq/\i.sq<=1000000000)\/¬(0<=i.pr/\i.pr<=2));omega),θ (by show ¬(256<i.po.length\/256<i.pa.length\/256<(Mc l i.af).length);omega)];show BM [Ff i,KO i,NC (Gi l i),LJ i,MP i]=0;rw [o,k,c,g,f];rfl
theorem Ow (l:List Int) (h:Ar i=0) (r:AT):Bw (Gi l i) r=Bw i r:=by
 unfold Bw;rw [h,SG l h];rfl
theorem aP (h:Az g=0) {x:Ac} (j:x∈g.ro):Hw g S x.r↔∃i,i∈(gO g S).it/\Bw i x.r≠0:=by
 have b:x.r∈ft g:=jW j;have k:=So h _ b
 constructor
 .rintro ⟨i,c,a,l⟩;have f:=E9 (PR h).2.1 _ c;exact ⟨Gi S i,jW (gS.2 ⟨c,by simpa using a⟩),by rw [Ow S f];exact (Rx f b k).1 l⟩
 grind [E9,PR,Ow,Rx,Hw,gO]
theorem Xd {I:List AI} {j:Nat} (a:j<I.length):(∃(m:Nat) (h:m<I.length),m<j+1/\Bw I[m] c≠0)↔(∃(m:Nat) (h:m<I.length),m<j/\Bw I[m] c≠0)\/Bw I[j] c≠0:=by grind
set_option maxHeartbeats 4000000 in
theorem V6 (p:fj) (l:List Int) (hE:Az p=0) (N:Fw p) (hl:l.length<=100000):AK prog 38 [.d (Bq p),.d (Ga l)] (Bq (gO p l)):=by
 have X:=N.i;have O:=N.r;refine At func38 Z Z ntmps38 Z Z Z λF f=>(AC (AE (V (Bo 1 Z Z Z Z Z Z Z) (V (By 2 rS Z Z Z Z) (AD (AC (AE (V (By 5 rS Z Z Z Z) ?_))))))));refine AD (AC (AC (Zw 5 0 1 902 LZ Z Z Z Z Z Z Z (AE (AB Z Z (AD (AZ (BO (α:=Nat×List AI) (λq=>⟨102,[(1,(.d (Ga l))),(2,(.ptr 1 0 0)),(4,(.ptr 2 0 0)),(5,(.ptr 5 0 0)),(6,(.d (AR q.1)))],[(902,[.rowD 93 6 (q.2.map Ag)]),(5,[.blk 25 [.d Cy,.own 902 0 q.2.length]]),(1,[EC 25 p]),(2,[.blk 25 [.d Cy,.d Cy]])]⟩) (λq=>q.1<=p.it.length/\q.2=((p.it.take q.1).filter λi=>decide (i.id∈l)).map (Gi l)) (λq=>p.it.length - q.1) ((0,[])) (⟨ζ _,Z⟩) (AY f [902,5,1,2] Z Z F0) ?_))))))));rintro ⟨k,I⟩ ⟨R,H⟩;dsimp only at R H⊢;refine AC ?_;refine AC (AE (fZ Z Z (J (AN Z MV Z Z Z) (J (AP Z Z Z Eh Z) (J (Ba Z cj Z) (J (BB Z Z Z) (AD (A9 Z (λB=>?_) (λB=>?_)))))))))
 .refine AX (AC (AZ (AC ?_)));have a:k<p.it.length:=BR B;have hxk:=N.x _ (ξ a);have hIl:I.length<=30:=by rw [H,χ];have:=gz (λi:AI=>decide (i.id∈l)) (p.it.take k);rw [ϖ] at this;omega
  refine AE ?_;refine J (AN Z MV Z Z Z) (J (AP Z Z Z Eh Z) (fZ Z Z (J (BJ (k) Z Z (Z) (A5 a) cj Z Dh Z) (J (DM Z Z IC Z) (V (By 7 kM Z Z Z Z) (V (B3 Z Z Z Z Z Z Z Dh) (AD (AC ?_))))))));refine AC (AE (fZ Z Z (J (AN Z Hi Z Z Z) (J (AP Z Z Z An Z) (J (As (FM l p.it[k].id (by omega)) Z Z) (J (Jw Z Z) (AD (A9 Z (λz=>?_) (λz=>?_)))))))))
  .refine Aw (AE (fZ Z Z (J (Al Z Z (AM (k+1) (by omega)) Z) (AB Z Z (AD ?_)))));exact ⟨(k+1,I),⟨a,by show _=((p.it.take (k+1)).filter _).map _;rw [ψ a,iP,Ω,<-H,jD,θ (by simpa using z)];simp⟩,by show p.it.length - (k+1)<p.it.length - k;omega,AY f [902,5,1,2] Z (Z) F0⟩
  .refine AX (AC (AE (AB Z Z ?_)));refine AD (AC (AC (AE (AB Z Z (AD (AZ (NG 8 13 BP Z Z Z Z (BO (α:=Nat×List Int) (λq=>⟨102,[(1,(.d (Ga l))),(2,(.ptr 1 0 0)),(4,(.ptr 2 0 0)),(5,(.ptr 5 0 0)),(6,(.d (AR k))),(7,(.ptr 7 0 0)),(8,(.own 13 0 q.2.length)),(9,(.d (AR q.1)))],[(13,[.rowD 3 1 (q.2.map AF)]),(7,[.blk 93 [.d (AF p.it[k].id),.d (AF p.it[k].pr),.d (AF p.it[k].sq),.d (.sl none (p.it[k].po.map B7)),.d (.sl none (p.it[k].pa.map Cp)),.d (.sl none (p.it[k].af.map AF))]]),(902,[.rowD 93 6 (I.map Ag)]),(5,[.blk 25 [.d Cy,.own 902 0 I.length]]),(1,[EC 25 p]),(2,[.blk 25 [.d Cy,.d Cy]])]⟩) (λq=>q.1<=p.it[k].af.length/\q.2=Mc l (p.it[k].af.take q.1)) (λq=>p.it[k].af.length - q.1) ((0,[])) (⟨ζ _,Z⟩) (AY f [13,7,902,5,1,2] Z Z S1) ?_))))))));rintro ⟨m,A⟩ ⟨D,K⟩;dsimp only at D K⊢;refine AC ?_;refine AC (AE (fZ Z Z (J (AN Z Cz Z Z Z) (J (AP Z Z Z BL Z) (J (Ba Z ch Z) (J (BB Z Z Z) (AD (A9 Z (λy=>?_) (λy=>?_)))))))))
   .refine AX (AC (AZ (AC ?_)));have b:m<p.it[k].af.length:=BR y;have hAl:A.length<=300:=by have:=Vm l (p.it[k].af.take m);rw [<-K,ϖ] at this;omega
    refine AE ?_;refine fZ Z Z (J (AN Z Cz Z Z Z) (J (AP Z Z Z BL Z) (fZ Z Z (J (BJ (m) Z Z (Z) (A5 b) ch Z BU Z) (J (CI Z Z An Z) (J (As (FM l p.it[k].af[m] (by omega)) Z Z) (AD (A9 Z (λw=>?_) (λw=>?_)))))))))
    .refine AE (fZ Z Z (J (AN Z Cz Z Z Z) (J (AP Z Z Z BL Z) (fZ Z Z (J (BJ (m) Z Z (Z) (A5 b) ch Z BU Z) (J (CI Z Z An Z) ?_))))));refine V (C5 50 BP Z Z Z Z Z Z Z Z) (V (F2 (A) ([p.it[k].af[m]]) Z Z Z Z Z Z Z Z BP (by simp only [ς];omega) Z Z Z Z) (AB Z Z (AD (AE (fZ Z Z (J (Al Z Z (AM (m+1) (by omega)) Z) (AB Z Z (AD ?_))))))));exact ⟨(m+1,A++ [p.it[k].af[m]]),⟨b,by show _=Mc l (p.it[k].af.take (m+1));rw [cz b (by unfold T0;simpa using w),K]⟩,by show p.it[k].af.length - (m+1)<p.it[k].af.length - m;omega,AY f [13,7,902,5,1,2] Z (Z) S1⟩
    .refine AX (AE (fZ Z Z (J (Al Z Z (AM (m+1) (by omega)) Z) (AB Z Z (AD ?_)))));exact ⟨(m+1,A),⟨b,by show _=Mc l (p.it[k].af.take (m+1));rw [R4 b (by unfold T0;simpa using w),K]⟩,by show p.it[k].af.length - (m+1)<p.it[k].af.length - m;omega,AY f [13,7,902,5,1,2] Z (Z) S1⟩
   .refine Aw (AC ?_);have P:m=p.it[k].af.length:=by have:=y;omega
    refine LL (emb:=AF) 8 13 A Z Z Z Z Z Z Z ?_;rw [show A=Mc l p.it[k].af by rw [K,P,gc]];refine AE ?_;refine fZ Z Z (J (AN Z Cz Z Z Z) (V (B3 Z Z Z Z Z Z Z DD) (AD (AE (J (AN Z MV Z Z Z) (J (AP Z Z Z Eh Z) (J (Ay Z Z IC Z Z Z) (V (C5 51 LZ Z Z Z Z Z Z Z Z) ?_))))))));refine V (F2 (I) ([Gi l p.it[k]]) Z Z Z Z Z Z Z Z LZ (by simp only [ς];omega) Z Z Z Z) (J (AN Z MV Z Z Z) (V (B3 Z Z Z Z Z Z Z uD) (AD (AE (fZ Z Z (J (Al Z Z (AM (k+1) (by omega)) Z) (AB Z Z (AD ?_))))))));exact ⟨(k+1,I++ [Gi l p.it[k]]),⟨a,by show _=((p.it.take (k+1)).filter _).map _;rw [ψ a,iP,Ω,<-H,jD,ϱ (by simpa using z)];rfl⟩,by show p.it.length - (k+1)<p.it.length - k;omega,AY f [902,5,1,2] Z (Z) F0⟩
 .refine Aw (AC (AC ?_));have Q:k=p.it.length:=by have:=B;omega
  have g:I=(gO p l).it:=by rw [H,Q,gc];rfl
  have Y:I.length<=30:=by rw [g];unfold gO;show (List.map _ _).length<=30;rw [χ];have:=gz (λi:AI=>decide (i.id∈l)) p.it;omega
  have W:∀i∈I,i.po.length<=12/\i.pa.length<=12/\i.af.length<=12:=λi M=>by rw [g] at M;obtain ⟨j,S,rfl⟩:=Θ.1 M;have h1:=N.x j (gS.1 S).1;have h2:=Vm l j.af;exact ⟨h1.1,h1.2.1,by show (Mc l j.af).length<=12;omega⟩
  refine Zy (ys:=I.map Ag) 5 0 1 902 Z Z Z (by simp) (κ (by simp)) Z Z Z Z Z Z (AE (AB Z Z (AD (AZ (Zw 5 0 0 901 oq Z Z Z Z Z Z Z (BO (α:=Nat×List Ac) (λq=>⟨102,[(2,(.ptr 1 0 0)),(4,(.ptr 2 0 0)),(5,(.ptr 5 0 0)),(10,(.d (AR q.1)))],[(901,[.rowD 100 7 (q.2.map Bv)]),(5,[.blk 25 [.own 901 0 q.2.length,.d (.sl none (I.map Ag))]]),(1,[EC 25 p]),(2,[.blk 25 [.d Cy,.d Cy]])]⟩) (λq=>q.1<=p.ro.length/\q.2=(p.ro.take q.1).filter λx=>dec (Hw p l x.r)) (λq=>p.ro.length - q.1) ((0,[])) (⟨ζ _,Z⟩) (AY f [901,5,1,2] Z Z E0) ?_))))));rintro ⟨k,T⟩ ⟨R,G⟩;dsimp only at R G⊢;refine AC (AC ?_);skip;refine AE (fZ Z Z (J (AN Z C8 Z Z Z) (J (AP Z Z Z IY Z) (J (Ba Z ek Z) (J (BB Z Z Z) (AD (A9 Z (λv=>?_) (λv=>?_))))))))
  .refine AX (AC (AZ (AC ?_)));have a:k<p.ro.length:=BR v;have hTl:T.length<=100:=by have:=gz (λx:Ac=>dec (Hw p l x.r)) (p.ro.take k);rw [<-G,ϖ] at this;omega
   refine AE ?_;refine AB Z Z (AD (AC (AC (AE (AB Z Z (AD (AZ (BO (α:=Nat×Bool) (λq=>⟨102,[(2,(.ptr 1 0 0)),(4,(.ptr 2 0 0)),(5,(.ptr 5 0 0)),(10,(.d (AR k))),(11,(.d (Ah q.2))),(12,(.d (AR q.1)))],[(901,[.rowD 100 7 (T.map Bv)]),(5,[.blk 25 [.own 901 0 T.length,.d (.sl none (I.map Ag))]]),(1,[EC 25 p]),(2,[.blk 25 [.d Cy,.d Cy]])]⟩) (λq=>q.1<=I.length/\(q.2=true↔∃(m:Nat) (h:m<I.length),m<q.1/\Bw I[m] p.ro[k].r≠0)) (λq=>I.length - q.1) ((0,false)) (⟨ζ _,⟨(λh=>nomatch h),λ⟨m,_,h,_⟩=>absurd h (Nat.not_lt_zero m)⟩⟩) (AY f [901,5,1,2] Z Z No) ?_))))))));rintro ⟨j,u⟩ ⟨S,L⟩;dsimp only at S L⊢;refine AC ?_;refine AC (AE (fZ Z Z (J (AN Z MV Z Z Z) (J (AP Z Z Z Eh Z) (J (JZ Z (χ ..) cj Z) (J (BB Z Z Z) (AD (A9 Z (λt=>?_) (λt=>?_)))))))))
   .refine AX (AC (AZ ?_));have c:j<I.length:=BR t;have hxj:=W _ (ξ c);refine CZ [[],[0],[0,1],[0,1,2],[0,1],rg 5,rg 6,[0,1],[0,1,7],[0,1],[0,1,7,8,9],[0,1,7,8,9,10],[0,1,7,8,9,10,11],rg 13,rg 14,rg 15,rg 16] mixed Z (Ad 1 Z Z (fZ Z Z (AD ⟨Z,?_⟩)));refine Ad 2 Z Z (fZ Z Z (KU 75 Z (λs=>?_) (λs=>?_)))
    .refine AD ⟨Z,?_⟩;refine CG (Ao [5,75] [] Z Z (λ_=>EF Z Z Z Z) (Ao [76,75] [] Z Z (λ_=>EF Z Z Z Z) (Ao [12,75] [] Z Z (λ_=>EF Z Z Z Z) (Ao [77,78,75] [] Z Z (λ_=>EF Z Z Z Z) (Ao [79,75] [] Z Z (λ_=>EF Z Z Z Z) (Ao [2,75] [] Z Z (λ_=>EF Z Z Z Z) ?_))))));refine Ao [81,75] [] Z Z (λ_=>EF Z Z Z Z) (Ao [10,75] [] Z Z (λ_=>EF Z Z Z Z) (Ao [82,83,75] [] Z Z (λ_=>EF Z Z Z Z) (Ao [84,75] [] Z Z (λ_=>EF Z Z Z Z) (Ao [85,75] [] Z Z (λ_=>EF Z Z Z Z) (CB 13 Z Z Z (Ad 14 Z Z (AL Z Z Z Z (AD ⟨Z,?_⟩))))))));refine Ad 15 Z Z (AL Z Z Z Z (AD ⟨Z,?_⟩));refine Ad 16 Z Z (J (B5 Z Z Z Z) (AD ⟨Z,?_⟩));refine Ad 17 Z Z (AB Z Z (AD ⟨Z,?_⟩));refine CM (AE (fZ Z Z (J (Al Z Z (AM (j+1) (by omega)) Z) (AB Z Z (AD ?_)))));exact ⟨(j+1,true),⟨c,by show true=true↔_;rw [Xd c,<-L];simp [s]⟩,by show I.length - (j+1)<I.length - j;omega,AY f [901,5,1,2] Z (Z) No⟩
    .refine AD ⟨Z,?_⟩;refine CG (Ao [5,75] [] Z Z (λ_=>Ck Z Z Z (AN Z MV Z Z Z)) (Au [76,75] Z Z (λ_=>Ck Z Z Z (AP Z Z Z Eh Z)) (Ao [12,75] [] Z Z (λ_=>Ck Z Z Z (P0 Z Z)) (Ao [77,78,75] [] Z Z (λ_=>Ck Z Z Z (BJ (j) Z Z (Z) (A5 c) cj Z Dh Z)) (Ao [79,75] [] Z Z (λ_=>Ck Z Z Z (DM Z Z IC Z)) (Ao [2,75] [] Z Z (λ_=>Ck Z Z Z (AN Z C8 Z Z Z)) (Au [81,75] Z Z (λ_=>Ck Z Z Z (AP Z Z Z IY Z)) ?_)))))));refine Ao [10,75] [] Z Z (λ_=>Ck Z Z Z (P0 Z Z)) (Ao [82,83,75] [] Z Z (λ_=>Ck Z Z Z (BJ (k) Z Z (Z) (A5 a) ek Z J4 Z)) (Ao [84,75] [] Z Z (λ_=>Ck Z Z Z (WX Z JN Z Z Z)) (Ao [85,75] [] Z Z (λ_=>Ck Z Z Z (DM Z Z GV Z)) (CB 13 Z Z Z (Ad 14 Z Z (AQ Z Z Z (J (As (Ja I[j] p.ro[k].r (by omega) (by omega) (by omega)) Z Z) (AD ⟨Z,?_⟩))))))));refine Ad 15 Z Z (AQ Z Z Z (J (Cw Z Z Z) (AD ⟨Z,?_⟩)));refine Ad 16 Z Z (J (Bk Z Z Z Z) (AD ⟨Z,?_⟩));refine Ad 17 Z Z (AB Z Z (AD ⟨Z,?_⟩));refine CM (AE (fZ Z Z (J (Al Z Z (AM (j+1) (by omega)) Z) (AB Z Z (AD ?_)))));exact ⟨(j+1,decide (¬Bw I[j] p.ro[k].r=0)),⟨c,by show decide _=true↔_;rw [Xd c,<-L];simp [s]⟩,by show I.length - (j+1)<I.length - j;omega,AY f [901,5,1,2] Z (Z) No⟩
   .refine Aw (AC ?_);have hje:j=I.length:=by have:=t;omega
    have C:dec (Hw p l p.ro[k].r)=u:=by rw [ju,FQ,L,aP hE (ξ a),<-g];exact ⟨λ⟨i,M,U⟩=>by obtain ⟨m,D,rfl⟩:=ii.1 M;exact ⟨m,D,by omega,U⟩,λ⟨m,D,_,U⟩=>⟨_,ξ D,U⟩⟩
    refine AE (fZ Z Z (AD (Iq Z (λo=>?_) (λo=>?_))))
    .refine CZ [[],[0],[],[2],[],[2,3,4],[2,3,4,5],[2,3,4,5,6],rg 8,rg 9,rg 10] mixed Z (CG (AU [5] Z (AN Z C8 Z Z Z) (Au [91] Z Z (λ_=>Ae (AP Z Z Z IY Z)) (AU [2] Z (AN Z C8 Z Z Z) ?_))));refine Au [93] Z Z (λ_=>Ae (AP Z Z Z IY Z)) (Av 10 Z Z (AU [94,95] Z (BJ (k) Z Z (Z) (A5 a) ek Z J4 Z) (AU [96] Z (DM Z Z sJ Z) (HC [97] [52] [(98,_)] Z Z (λ_=>HD (C5 52 oq Z Z Z Z Z Z Z Z)) (.inr ⟨98,_,Z,Z,Z,Z,Z⟩) Z Z Z Z Z (CB 8 Z Z Z (Ad 9 Z Z (V (F2 (T) ([p.ro[k]]) Z Z Z Z Z Z Z Z oq (by simp only [ς];omega) Z Z Z Z) (AD ⟨Z,?_⟩))))))));refine Ad 10 Z Z (J (AN Z C8 Z Z Z) (AD ⟨Z,?_⟩));refine Ad 11 Z Z (V (B3 Z Z Z Z Z Z Z uE) (AD ⟨Z,?_⟩));refine CM (AE (fZ Z Z (J (Al Z Z (AM (k+1) (by omega)) Z) (AB Z Z (AD ?_)))));exact ⟨(k+1,T++ [p.ro[k]]),⟨a,by show _=(p.ro.take (k+1)).filter _;rw [ψ a,iP,<-G,jD,ϱ (by rw [C];exact o)];rfl⟩,by show p.ro.length - (k+1)<p.ro.length - k;omega,AY f [901,5,1,2] Z (Z) E0⟩
    .refine AX (AE (fZ Z Z (J (Al Z Z (AM (k+1) (by omega)) Z) (AB Z Z (AD ?_)))));exact ⟨(k+1,T),⟨a,by show _=(p.ro.take (k+1)).filter _;rw [ψ a,iP,<-G,jD,θ (by rw [C,o];decide)];simp⟩,by show p.ro.length - (k+1)<p.ro.length - k;omega,AY f [901,5,1,2] Z (Z) E0⟩
  .refine Aw (AC ?_);have E:k=p.ro.length:=by have:=v;omega
   refine Zy (ys:=T.map Bv) 5 0 0 901 Z Z Z (by simp) (κ (by simp)) Z Z Z Z Z Z ?_;rw [show T=(gO p l).ro by rw [G,E,gc];rfl,g];refine AE (J (Ay Z Z EM Z Z Z) (V (B3 Z Z Z Z Z Z Z uC) (AD (A4 ?_))));exact ⟨_,[],[],A2 Z,Z,Z,Z,Z⟩
end Go.Proofs.YteifpcnphnhaoaaGreat
namespace Go.Proofs.YteifpcnphnhaoaaGreat
open Go.ChangeShapes Go.WideShapes Go.ChangeAt Go.RowKit
section
variable {H:Type} {enc:TypeId×Value ->H} {w:World}
abbrev tt {α:Type}:α ->Prop:=λ_=>True
theorem oI:CT enc prog w 3 1 AF tt:=(Wy underlying3).asQ id (λ_ _=>rfl) (λ_ _=>trivial)
theorem oJ:CT enc prog w 2 1 AF tt:=(Wy underlying2).asQ id (λ_ _=>rfl) (λ_ _=>trivial)
theorem oS:CT enc prog w 9 1 Am tt:=(cE underlying9).asQ id (λ_ _=>rfl) (λ_ _=>trivial)
theorem vN:CT enc prog w 28 1 (λl:List Int=> .sl none (l.map AF)) tt:=(Lj ch (by kernel_rfl) (by omega) (b:=8) (by kernel_rfl) oI).asQ id (λ_ _=>rfl) (λ_ _=>trivial)
theorem sj:CT enc prog w 96 3 um tt:=
 (Jf underlying96 (by kernel_rfl) (CC Z (by kernel_rfl) oS (CC Z (by kernel_rfl) oI (CC Z (by kernel_rfl) oS Jg)))).asQ (λa=>(⟨a.1,a.2.1,a.2.2.1⟩:Ut)) (λ_ _=>rfl) (λ_ _=>trivial)
theorem si:CT enc prog w 192 4 B7 tt:=
 (Jf underlying192 (by kernel_rfl) (CC Z (by kernel_rfl) sj (CC Z (by kernel_rfl) oJ Jg))).asQ (λa=>(⟨a.1,a.2.1⟩:FT)) (λ_ _=>rfl) (λ_ _=>trivial)
theorem u5:CT enc prog w 193 3 Cp tt:=
 (Jf underlying193 (by kernel_rfl) (CC Z (by kernel_rfl) oS (CC Z (by kernel_rfl) oS (CC Z (by kernel_rfl) oJ Jg)))).asQ (λa=>(⟨a.1,a.2.1,a.2.2.1⟩:MW)) (λ_ _=>rfl) (λ_ _=>trivial)
theorem u2:CT enc prog w 98 6 Bc tt:=
 (Jf underlying98 (by kernel_rfl) (CC Z (by kernel_rfl) oI (CC Z (by kernel_rfl) sj (CC Z (by kernel_rfl) oS (CC Z (by kernel_rfl) oS Jg))))).asQ (λa=>(⟨a.1,a.2.1,a.2.2.1,a.2.2.2.1⟩:AT)) (λ_ _=>rfl) (λ_ _=>trivial)
theorem u6:CT enc prog w 93 6 Ag tt:=
 (Jf underlying93 (by kernel_rfl) (CC Z (by kernel_rfl) oI (CC Z (by kernel_rfl) oI (CC Z (by kernel_rfl) oI
  (CC Z (by kernel_rfl) (Lj dr (by kernel_rfl) (by omega) (b:=48) (by kernel_rfl) si)
  (CC Z (by kernel_rfl) (Lj fV (by kernel_rfl) (by omega) (b:=40) (by kernel_rfl) u5) (CC Z (by kernel_rfl) vN Jg))))))).asQ
  (λa=>(⟨a.1,a.2.1,a.2.2.1,a.2.2.2.1,a.2.2.2.2.1,a.2.2.2.2.2.1⟩:AI)) (λ_ _=>rfl) (λ_ _=>trivial)
theorem u3:CT enc prog w 100 7 Bv tt:=
 (Jf underlying100 (by kernel_rfl) (CC Z (by kernel_rfl) u2 (CC Z (by kernel_rfl) oJ Jg))).asQ (λa=>(⟨a.1,a.2.1⟩:Ac)) (λ_ _=>rfl) (λ_ _=>trivial)
theorem u4:CT enc prog w 25 2 Bq tt:=
 (Jf underlying25 (by kernel_rfl) (CC Z (by kernel_rfl) (Lj ek (by kernel_rfl) (by omega) (b:=88) (by kernel_rfl) u3) (CC Z (by kernel_rfl) (Lj cj (by kernel_rfl) (by omega) (b:=96) (by kernel_rfl) u6) Jg))).asQ
  (λa=>(⟨a.1,a.2.1⟩:fj)) (λ_ _=>rfl) (λ_ _=>trivial)
end
end Go.Proofs.YteifpcnphnhaoaaGreat
