import Derived.Test.YteifpcnphnhaoaaGreatMg24
open Go.Proofs.Tryz
namespace Go.Proofs.YteifpcnphnhaoaaGreat
open Go.RowKit
variable {E:List (AI×Nat)} {a:List AT} {S:List Nat} {i k:Nat} {c:fj} {C:Nat ->Nat ->Prop} {f:List Int} {g:List Nat} {h:Bool} {j:AI} {o:AT} {s t:Nat ->Nat} {N:fv} {M:MF} {u w x:Nat}
set_option maxRecDepth 100000
theorem Rw (f:Ar j=0) (c:o∈a) (b:CF o=0) (v:Int):(o,v)∈dR a j↔v=Bw j o/\v≠0:=by grind [A0,eD,Bw,dR,LE,F9,Ih]
theorem Rx (f:Ar j=0) (c:o∈a) (b:CF o=0):o∈(dR a j).map Prod.fst↔Bw j o≠0:=by simp [*,Rw]
theorem eI (f:Ar j=0) (c:o∈a) (b:CF o=0):Aa (dR a j) o 0=Bw j o:=by grind [JG,Rx,D7,eH,Rw]
theorem oG (h:o∈(dR a j).map Prod.fst):o∈a:=by
 obtain ⟨d,b,e⟩:=Θ.1 h;rw [<-e];exact jS (gS.1 b).2
theorem o0 (b:∀r∈a,CF r=0) {x y:AI} (g:Ar x=0) (f:Ar y=0):Zt a x y↔y.id∈x.af\/∃r∈a,Bw x r<0/\0<Bw y r:=by
 constructor
 .grind [oG,Rw,eI,Zt]
 .rintro (h | ⟨r,c,j,i⟩)
  .exact .inr h
  .exact .inl ⟨(r,Bw x r),(Rw g c (b r c) _).2 ⟨Z,by omega⟩,j,by rw [eI f c (b r c)];exact i⟩
theorem l6 (b:∀r∈a,CF r=0) {x y:AI} (f:Ar x=0) (c:Ar y=0):J0 a x y↔(y.id∈x.af\/x.id∈y.af)\/∃r∈a,Bw x r≠0/\Bw y r≠0:=by grind [oG,Rx,J0]
theorem So (f:Az c=0):∀r∈ft c,CF r=0:=λr b=>by
 obtain ⟨x,a,rfl⟩:=Θ.1 b;exact P7 (PR f).1 x a
theorem FM (l:List Int) (x:Int) (i:l.length<=140737488355328):AK prog 57 [.d (Ga l),.d (AF x)] (Ah (decide (x∈l))):=by
 refine At func57 Z Z ntmps57 Z Z Z λF j=>(AC (AE ?_));refine AB Z Z (AD (AC (AC (AE (AB Z Z (AD (AZ (G7 (α:=Nat) (λk=>⟨18,[(0,.d (Ga l)),(1,.d (AF x)),(5,(.d (AF (k:Int))))],[]⟩) (λk=>k<=l.length/\x∉l.take k) (λk=>l.length - k) (0) (⟨ζ _,by simp⟩) (Zz Qs) ?_))))))));rintro k ⟨g,f⟩;refine AC (AC (AE (fZ Z Z (fZ Z Z (J (Ba Z ch Z) (J (BB Z Z Z) (AD (A9 Z (λc=>?_) (λc=>?_)))))))))
 .have a:k<l.length:=BR c;refine AX (AC (AZ (AC ?_)));refine AE (fZ Z Z (fZ Z Z (J (BJ (k) Z Z (Z) (A5 a) ch Z BU Z) (J (CI Z Z An Z) (fZ Z Z (J (GF Z Z Z) (AD (A9 Z (λb=>?_) (λb=>?_)))))))))
  .refine AC (AE (AB Z Z (AD (A4 ?_))));exact ⟨_,[],[],A2 Z,Z,Z,by rw [gQ (by rw [<-b];exact ξ a)],Z⟩
  .refine AX (AE (fZ Z Z (J (Al Z Z (AM (k+1) (by omega)) Z) (AB Z Z (AD ?_)))));exact ⟨k+1,⟨by show k+1<=_;omega,Du a f (λe=>b e.symm)⟩,by show l.length - (k+1)<l.length - k;omega,⟨Z,Z,λ_ _=>SU.get (l:=[(0,_),(1,_),(5,_)]) Qs⟩⟩
 .refine Aw (AC (AE (AB Z Z (AD (A4 ?_)))));exact ⟨_,[],[],A2 Z,Z,Z,by rw [gV (I3 (by have h:=c;omega) f)],Z⟩
def Yr (p:fj) (l:List Int):List Int:=((BK p.it).filter λi=>decide (i.id∈l)).map AI.id
theorem QO (p:fj) (l:List Int) (g:p.it.length<=1000) (w:l.length<=1000000):AK prog 53 [.d (Bq p),.d (Ga l)] (Ga (Yr p l)):=by
 have j:=Sy p.it g;have s:=aA p.it;unfold Yr
 obtain ⟨S,v⟩:∃S,BK p.it=S:=⟨_,Z⟩
 rw [v] at j s⊢;refine At func53 Z Z ntmps53 Z Z Z λF t=>(AC (AE (V (Bo 1 Z Z Z Z Z Z Z) (AB Z Z (AD (AC ?_))))));refine AE (AB Z Z (AD (AC (AE (J (AN Z MV Z Z Z) (J (AP Z Z Z Eh Z) (J (As (j) Z Z) (AB Z Z ?_))))))));refine AD (AC (AC (AE (AB Z Z (AD (AZ (NG 5 900 BP Z Z Z Z (BO (α:=Nat×List Int) (λq=>⟨33,[(1,.d (Ga l)),(5,(.own 900 0 q.2.length)),(6,(.d (.sl none (S.map Ag)))),(7,(.d (AF (q.1:Int))))],[(900,[.rowD 3 1 (q.2.map AF)])]⟩) (λq=>q.1<=S.length/\q.2=((S.take q.1).filter λi=>decide (i.id∈l)).map AI.id) (λq=>S.length - q.1) ((0,[])) (⟨ζ _,Z⟩) (AY t [900] Z Z E0) ?_))))))));rintro ⟨k,a⟩ ⟨r,h⟩;dsimp only at r h⊢;refine AC (AC (AE (fZ Z Z (fZ Z Z (J (Ba Z cj Z) (J (BB Z Z Z) (AD (A9 Z (λf=>?_) (λf=>?_)))))))))
 .have b:k<S.length:=BR f;refine AX (AC (AZ (AC ?_)));have u:a.length<=1000:=by rw [h,χ];exact gJ (gz _ _) (by rw [ϖ];omega)
  refine AE ?_;refine fZ Z Z (fZ Z Z (fZ Z Z (J (BJ (k) Z Z (Z) (A5 b) cj Z Dh Z) (J (Nc Z Hi Z Z Z) (J (CI Z Z An Z) (J (As (FM l S[k].id (by omega)) Z Z) (AD (A9 Z (λc=>?_) (λc=>?_)))))))))
  .refine AE (fZ Z Z (fZ Z Z (fZ Z Z (J (BJ (k) Z Z (Z) (A5 b) cj Z Dh Z) (J (Nc Z Hi Z Z Z) (J (CI Z Z An Z) ?_))))));refine V (C5 30 BP Z Z Z Z Z Z Z Z) (V (F2 (a) ([S[k].id]) Z Z Z Z Z Z Z Z BP (by simp only [ς];omega) Z Z Z Z) (AB Z Z (AD (AE (fZ Z Z (J (Al Z Z (AM (k+1) (by omega)) Z) (AB Z Z (AD ?_))))))));exact ⟨(k+1,a++ [S[k].id]),⟨by show k+1<=_;omega,by show _=((S.take (k+1)).filter _).map AI.id;rw [ψ b,iP,Ω,h];simp [c]⟩,by show S.length - (k+1)<S.length - k;omega,AY t [900] Z (Z) E0⟩
  .refine AX (AE (fZ Z Z (J (Al Z Z (AM (k+1) (by omega)) Z) (AB Z Z (AD ?_)))));exact ⟨(k+1,a),⟨by show k+1<=_;omega,by show _=((S.take (k+1)).filter _).map AI.id;rw [ψ b,iP,Ω,h];simp [c]⟩,by show S.length - (k+1)<S.length - k;omega,AY t [900] Z (Z) E0⟩
 .refine Aw (AC ?_);have o:k=S.length:=by have:=f;omega
  rw [o,gc] at h;refine LL (emb:=AF) 5 900 a Z Z Z Z Z Z Z ?_;rw [h];refine AE (fZ Z Z (AB Z Z (AD (A4 ?_))));exact ⟨_,[],[],A2 Z,Z,Z,Z,Z⟩
theorem Tn (p:fj) (id:Int) (f:p.it.length<=1000) (c:id∈p.it.map AI.id):AK prog 108 [.d (Bq p),.d (AF id)] (Ag (B2 p id)):=by
 obtain ⟨g,i,h,_⟩:=Kd c;rw [h];have a:=Vz p id (by omega);rw [i] at a
 obtain ⟨k,b⟩:∃k,(p.it.map AI.id).idxOf id=k:=⟨_,Z⟩
 simp only [b] at g a⊢;refine At func108 Z Z ntmps108 Z Z Z λF j=>(AC (AE (V (Bo 1 Z Z Z Z Z Z Z) (V (By 2 kM Z Z Z Z) (AD (AC (CZ [[],[0],[],[],[2,3],rg 5,rg 6,rg 7] mixed Z (CG ?_))))))));refine AU [2] Z (AN Z MV Z Z Z) (Au [5] Z Z (λ_=>Ae (AP Z Z Z Eh Z)) (Au [2] Z Z (λ_=>Ae (Ay Z Z EM Z Z Z)) (Av 1 Z Z (AU [7,8] Z (As (a) Z Z) (CB 5 Z Z Z (Ad 6 Z Z (J (BJ (k) Z Z (Z) (A5 g) cj Z Dh Z) (AD ⟨Z,?_⟩))))))));refine Ad 7 Z Z (J (DM Z Z IC Z) (AD ⟨Z,?_⟩));refine Ad 8 Z Z (V (B3 Z Z Z Z Z Z Z Dh) (AD ⟨Z,?_⟩));refine CM (A4 ?_);exact ⟨_,[],[],A2 Z,Z,Z,Z,Z⟩
theorem Q0 {id:Int} (h:id∈c.it.map AI.id):B2 c id∈c.it/\(B2 c id).id=id:=by
 obtain ⟨b,_,a,f⟩:=Kd h
 grind
set_option maxHeartbeats 1000000 in
theorem R7 (p:fj) (Q:Az p=0) (D:Fw p) (a b:Int) (T:a∈p.it.map AI.id) (S:b∈p.it.map AI.id):AK prog 58 [.d (Bq p),.d (AF a),.d (AF b)] (Ah (decide (J0 (ft p) (B2 p a) (B2 p b)))):=by
 obtain ⟨A,K⟩:=Q0 T;obtain ⟨z,I⟩:=Q0 S;have R:=D.i;have G:=D.r;have O:=E9 (PR Q).2.1 _ A;have N:=E9 (PR Q).2.1 _ z;have c:=l6 (So Q) O N;rw [I,K] at c;have M:=D.x _ A;have L:=D.x _ z;have u:=Tn p a (by omega) T;have t:=Tn p b (by omega) S;have C:=λr=>Ja (B2 p a) r (by omega) (by omega) (by omega);have B:=λr=>Ja (B2 p b) r (by omega) (by omega) (by omega)
 obtain ⟨x,W⟩:∃x,B2 p a=x:=⟨_,Z⟩
 obtain ⟨y,U⟩:∃y,B2 p b=y:=⟨_,Z⟩
 simp only [W,U] at c M L u t C B⊢;refine At func58 Z Z ntmps58 Z Z Z λF P=>(AC (AE ?_));refine V (Bo 1 Z Z Z Z Z Z Z) (AB Z Z (AD (AC (CZ [[],[],[0,1],[],[],rg 5,[],[],rg 8,rg 9] mixed Z (CG (Ao [3] [1] Z Z (λ_=>Ae (Ay Z Z EM Z Z Z)) (Av 1 Z Z (AU [11,12] Z (As (u) Z Z) ?_))))))));refine Ao [3] [1] Z Z (λ_=>Ae (Ay Z Z EM Z Z Z)) (Av 2 Z Z (AU [14,15] Z (As (t) Z Z) (HC [] [7] [(7,_)] Z Z (λ_=>HD (By 7 kM Z Z Z Z)) (.inr ⟨7,_,Z,Z,Z,Z,Z⟩) Z Z Z Z Z (HC [] [8] [(8,_)] Z Z (λ_=>HD (By 8 kM Z Z Z Z)) (.inr ⟨8,_,Z,Z,Z,Z,Z⟩) Z Z Z Z Z (CB 8 Z Z Z (Ad 9 Z Z (V (B3 Z Z Z Z Z Z Z Dh) (AD ⟨Z,?_⟩))))))));refine Ad 10 Z Z (V (B3 Z Z Z Z Z Z Z Dh) (AD ⟨Z,?_⟩));refine CM ?_;refine AC (AC (AE (J (AN Z Cz Z Z Z) (J (AP Z Z Z BL Z) (fZ Z Z (J (As (FM x.af b (by omega)) Z Z) (fZ Z Z (C3 21 Z (λs=>?_) (λs=>?_)))))))))
 .refine AL Z Z Z Z (AL Z Z Z Z (AL Z Z Z Z ?_));refine AL Z Z Z Z (J (B5 Z Z Z Z) (AD (Bx Z Z (AC (AE (AB Z Z (AD (A4 ?_))))))));exact ⟨_,[],[],A2 Z,Z,Z,by rw [gQ (c.2 (.inl (by first | exact .inl s | exact .inr l)))],rfl⟩
 .refine AQ Z Z Z (J (AN Z Cz Z Z Z) ?_);refine AQ Z Z Z (J (AP Z Z Z BL Z) (AQ Z Z Z (fZ Z Z (AQ Z Z Z (J (As (FM y.af a (by omega)) Z Z) (J (Bk Z Z Z Z) (AD (A9 Z (λl=>?_) (λl=>?_)))))))))
  .refine AC (AE (AB Z Z (AD (A4 ?_))));exact ⟨_,[],[],A2 Z,Z,Z,by rw [gQ (c.2 (.inl (by first | exact .inl s | exact .inr l)))],rfl⟩
  .refine AX (AC (AC (AE (AB Z Z (AD (AZ (BO (α:=Nat) (λk=>⟨50,[(3,(.ptr 1 0 0)),(7,(.ptr 7 0 0)),(8,(.ptr 8 0 0)),(9,(.d (AF (k:Int))))],[(1,[.blk 25 [.d (.sl none (p.ro.map Bv)),.d (.sl none (p.it.map Ag))]]),(7,[.blk 93 [.d (AF x.id),.d (AF x.pr),.d (AF x.sq),.d (.sl none (x.po.map B7)),.d (.sl none (x.pa.map Cp)),.d (.sl none (x.af.map AF))]]),(8,[.blk 93 [.d (AF y.id),.d (AF y.pr),.d (AF y.sq),.d (.sl none (y.po.map B7)),.d (.sl none (y.pa.map Cp)),.d (.sl none (y.af.map AF))]])]⟩) (λk=>k<=p.ro.length/\∀o∈p.ro.take k,¬(Bw x o.r≠0/\Bw y o.r≠0)) (λk=>p.ro.length - k) (0) (⟨ζ _,by simp⟩) (AY P [1,7,8] Z Z E0) ?_)))))));rintro k ⟨hk,E⟩;refine AC ?_;refine AC (AE (fZ Z Z (J (AN Z C8 Z Z Z) (J (AP Z Z Z IY Z) (J (Ba Z ek Z) (J (BB Z Z Z) (AD (A9 Z (λw=>?_) (λw=>?_)))))))))
   .refine AX (AC (AZ (AC ?_)));have g:k<p.ro.length:=BR w;refine AE (J (AN Z C8 Z Z Z) (J (AP Z Z Z IY Z) (fZ Z Z (J (BJ (k) Z Z (Z) (A5 g) ek Z J4 Z) (J (WX Z JN Z Z Z) (J (DM Z Z GV Z) (V (By 10 YG Z Z Z Z) (V (B3 Z Z Z Z Z Z Z LU) ?_))))))));refine AD (AC (AE (J (Ay Z Z IC Z Z Z) (J (Ay Z Z GV Z Z Z) (J (As (C p.ro[k].r) Z Z) (J (Cw Z Z Z) (fZ Z Z (C3 44 Z (λj=>?_) (λj=>?_)))))))))
    .refine AQ Z Z Z (J (Ay Z Z IC Z Z Z) ?_);refine AQ Z Z Z (J (Ay Z Z GV Z Z Z) (AQ Z Z Z (J (As (B p.ro[k].r) Z Z) (AQ Z Z Z (J (Cw Z Z Z) (J (B5 Z Z Z Z) (AD (A9 Z (λi=>?_) (λi=>?_)))))))))
     .refine AC (AE (AB Z Z (AD (A4 ?_))));exact ⟨_,[],[],A2 Z,Z,Z,by rw [gQ (c.2 (.inr ⟨_,jW (f:=Ac.r) (ξ g),j,i⟩))],Z⟩
     .refine AX (AE (fZ Z Z (J (Al Z Z (AM (k+1) (by omega)) Z) (AB Z Z (AD ?_)))));exact ⟨k+1,⟨g,λo v=>by rw [ψ g] at v;exact (υ.1 v).elim (E o) λe=>by rw [η.1 e];first | exact λh=>j h.1 | exact λh=>i h.2⟩,by omega,AY P [1,7,8] Z (Z) E0⟩
    .refine AL Z Z Z Z (AL Z Z Z Z (AL Z Z Z Z (AL Z Z Z Z ?_)));refine J (Bk Z Z Z Z) (AD (Cm Z Z (AX (AE (fZ Z Z (J (Al Z Z (AM (k+1) (by omega)) Z) (AB Z Z (AD ?_))))))));exact ⟨k+1,⟨g,λo v=>by rw [ψ g] at v;exact (υ.1 v).elim (E o) λe=>by rw [η.1 e];first | exact λh=>j h.1 | exact λh=>i h.2⟩,by omega,AY P [1,7,8] Z (Z) E0⟩
   .refine Aw (AC ?_);have H:k=p.ro.length:=by have:=w;omega
    rw [H,gc] at E;refine AE (AB Z Z (AD (A4 ?_)));exact ⟨_,[],[],A2 Z,Z,Z,by rw [gV λX=>(c.1 X).elim (λh=>h.elim s l) λ⟨r,Y,h⟩=>by obtain ⟨o,v,e⟩:=Θ.1 Y;rw [<-e] at h;exact E o v h],Z⟩
def DX (p:fj) (l:List Int):List (AI×Nat):=((BK p.it).filter λi=>decide (i.id∈l)).map λi=>(i,0)
theorem Gy (p:fj) (l:List Int):(DX p l).map Prod.fst=(BK p.it).filter λi=>decide (i.id∈l):=by unfold DX;rw [gZ];exact List.map_id _
theorem NT (k:Nat):DJ E k=(E.map Prod.fst).getD k Af:=by grind [DJ]
theorem WM {E':List (AI×Nat)} (h:E.map Prod.fst=E'.map Prod.fst):gL a E=gL a E':=by
 have c:DJ E=DJ E':=funext λk=>by rw [NT,NT,h]
 have b:E.length=E'.length:=by rw [<-χ (f:=Prod.fst),h,χ]
 have g:pS a E=pS a E':=by unfold pS;rw [c,b]
 simp [*,gL,Cn,BC]
def SQ (E:List (AI×Nat)) (k:Nat):Int:=(DJ E k).id
theorem El (c:kD E) (b:∀j∈S,j<E.length) (a:k<E.length):SQ E k∈BC E S↔k∈S:=by grind [BC,kD,SQ]
theorem Zo (E:List (AI×Nat)) (S:List Nat):(BC E S).length=S.length:=χ _
structure PG (rs:List AT) (E:List (AI×Nat)) (i:Nat) (S:List Nat):Prop where
 nd:S.Nodup
 ini:i∈S
 con:∀j∈S,j<E.length/\Cn rs E i j
theorem PG.zero (c:i<E.length):PG a E i [i]:=⟨by simp,by simp,λj b=>by rw [η.1 b];exact ⟨c,.refl i⟩⟩
theorem PG.add (h:PG a E i S) {j:Nat} (l:j∈S) (g:k<E.length) (o:k∉S) (r:J0 a (DJ E j) (DJ E k)):PG a E i (S++ [k]):=by
 refine ⟨jn.2 ⟨h.nd,by simp,λc t b s e=>o (by rw [η.1 s] at e;rw [<-e];exact t)⟩,jN _ h.ini,λx f=>?_⟩;rcases υ.1 f with f | f
 .exact h.con x f
 .rw [η.1 f];exact ⟨g,(h.con j l).2.trans (Rh.one (E7.2 ⟨(h.con j l).1,g,r⟩))⟩
theorem PG.len {i:Nat} (h:PG a E i S):S.length<=E.length:=by
 have:=h.nd.length_le_of_subset (l₂:=List.range E.length) λy b=>Ψ.2 (h.con y b).1
 grind
def tg (rs:List AT) (E:List (AI×Nat)) (S:List Nat) (k:Nat):Prop:=k∈S\/∀m∈S,¬J0 rs (DJ E m) (DJ E k)
structure PK (rs:List AT) (E:List (AI×Nat)) (i:Nat) (S0:List Nat) (k:Nat) (S:List Nat) (g:Bool):Prop where
 pg:PG rs E i S
 no:g=false ->S=S0/\∀k',k'<k ->tg rs E S k'
 yes:g=true ->S0.length<S.length
theorem PK.zero (h:PG a E i S):PK a E i S 0 S false:=⟨h,λ_=>⟨Z,λb c=>by omega⟩,λe=>nomatch e⟩
theorem PK.le (b:PK a E i g k S h):g.length<=S.length:=by
 cases hg:h with
 | false=>rw [(b.no hg).1];exact Γ _
 | true=>exact Nat.le_of_lt (b.yes hg)
theorem PK.pass (b:PK a E i g k S h) (j:tg a E S k):PK a E i g (k+1) S h:=
 ⟨b.pg,λe=>⟨(b.no e).1,λc l=>(Nat.decEq c k).byCases (λf=>by rw [f];exact j) λf=>(b.no e).2 c (by omega)⟩,b.yes⟩
theorem PK.hit {c:Nat} (b:PK a E i g k S h) (f:PG a E i (S++ [k])):PK a E i g c (S++ [k]) true:=
 ⟨f,λe=>(nomatch e),λ_=>by rw [Δ,ς];exact Nat.lt_succ_of_le b.le⟩
theorem PG.fin (h:PG a E i S) (j:∀k,k<E.length ->tg a E S k) (s:k<E.length):k∈S↔Cn a E i k:=by
 refine ⟨λg=>(h.con k g).2,λl=>?_⟩;refine Rh.clos (p:=λx=>x∈S) (λv c y b=>?_) l h.ini;obtain ⟨_,r,o⟩:=E7.1 b;exact (j y r).resolve_right λf=>f v c o
noncomputable def iM (n i:Nat) (C:Nat ->Nat ->Prop):List (List Nat):=((List.range i).filter λk=>dec (∀j,j<k ->¬C k j)).map λk=>(List.range n).filter λj=>dec (C k j)
theorem eT (h:∀j,j<i ->¬C i j):iM u (i+1) C=iM u i C++ [(List.range u).filter λj=>dec (C i j)]:=by grind [iM,hU,Xl]
theorem Za (h:¬∀j,j<i ->¬C i j):iM u (i+1) C=iM u i C:=by grind [iM,hU,oF]
theorem eS (n i:Nat) (C:Nat ->Nat ->Prop):(iM n i C).length<=i:=by grind [iM]
theorem Yq (a:((BK c.it).map AI.id).Nodup) (o:∀j∈S,j<(DX c f).length):Yr c (BC (DX c f) S)=BC (DX c f) ((List.range (DX c f).length).filter λj=>decide (j∈S)):=by
 have s:kD (DX c f):=O8 a (Gy c f);have r:=Gy c f
 obtain ⟨E,v⟩:∃E,DX c f=E:=⟨_,Z⟩
 rw [v] at o s r⊢
 have z:((BK c.it).filter λi=>decide (i.id∈BC E S))=(E.map Prod.fst).filter λi=>decide (i.id∈BC E S):=by
  rw [r,List.filter_filter];refine jj λi A=>?_
  by_cases h:i.id∈BC E S
  .have g:i.id∈f:=by
    obtain ⟨j,u,e⟩:=Θ.1 h;have t:DJ E j∈E.map Prod.fst:=by rw [SJ (o j u)];exact jW (ξ _)
    rw [r] at t;have w:=jS (gS.1 t).2;rw [<-e];exact w
   rw [gQ h,gQ g];rfl
  .rw [gV h];simp
 have y:E.map Prod.fst=(List.range E.length).map (DJ E):=by
  refine i7 (by simp) λk x B=>?_;have b:k<E.length:=by simpa using x
  rw [gq,gq,kL,SJ b]
 unfold Yr BC;rw [show ((BK c.it).filter λi=>decide (i.id∈List.map (λk=>(DJ E k).id) S))=_ from z,y,List.filter_map,gZ];refine congr (gG _ Z) (jj λk b=>?_);exact decide_eq_decide.2 (El s o (Ψ.1 b))
theorem mC {D:List Nat} (c:∀k,k<E.length ->(k∈D↔∃j,j<i/\Cn a E j k)) (b:∀k,k<E.length ->(k∈S↔Cn a E i k)):∀k,k<E.length ->(k∈D++S↔∃j,j<i+1/\Cn a E j k):=by grind
theorem mE {D:List Nat} (l:i<E.length) (c:∀k,k<E.length ->(k∈D↔∃j,j<i/\Cn a E j k)) (h:i∈D):∀k,k<E.length ->(k∈D↔∃j,j<i+1/\Cn a E j k):=λk g=>by
 rw [c k g]
 constructor
 .rintro ⟨j,s,b⟩;exact ⟨j,by omega,b⟩
 .rintro ⟨j,s,b⟩
  by_cases e:j=i
  .subst e;obtain ⟨f,r,o⟩:=(c j l).1 h;exact ⟨f,r,o.trans b⟩
  .exact ⟨j,by omega,b⟩
theorem Ql {D:List Nat} (f:i<E.length) (g:∀k,k<E.length ->(k∈D↔∃j,j<i/\Cn a E j k)):i∉D↔∀j,j<i ->¬Cn a E i j:=by
 rw [g i f];exact ⟨λh j b c=>h ⟨j,b,c.symm⟩,λh ⟨j,b,c⟩=>h j b c.symm⟩
theorem X8 {E:List (AI×Nat)} {S:List Nat} {m:Nat} (a:m<S.length):((BC E S).map AF)[m]? =some (AF (SQ E S[m])):=by
 unfold BC;rw [gZ,ν,ω a]
 rfl
theorem ZT (b:Az c=0) (a:k<(DX c f).length):SQ (DX c f) k∈c.it.map AI.id/\B2 c (SQ (DX c f) k)=DJ (DX c f) k:=by grind [SJ,jW,ξ,Gy,Zs,Vs,SQ]
theorem cC:Yr c f=BC (DX c f) (List.range (DX c f).length):=by
 unfold Yr BC;rw [<-Gy];refine i7 (by simp) λk b a=>?_
 grind [SJ]
def gT (S:List Nat) (k:Nat) (h:Bool):List Nat:=if h=true then S++ [k] else S
theorem PK.next {f:Bool} (b:PK a E i g k S h) (c:f=true ->PG a E i (S++ [k])) (j:f=false ->tg a E S k):PK a E i g (k+1) (gT S k f) (if f=true then true else h):=by
 cases f with
 | false=>exact b.pass (j Z)
 | true=>exact b.hit (c Z)
theorem qM {hh:Bool} (b:∀j∈S,j<E.length) (a:k<E.length):∀j∈gT S k hh,j<E.length:=by grind [gT]
theorem dS (S:List Nat) (k:Nat) (a:Bool):(gT S k a).length<=S.length+1:=by grind [gT]
set_option maxHeartbeats 4000000 in
theorem Yk (p:fj) (l:List Int) (hE:Az p=0) (hf:Fw p) (hl:l.length<=100000):AK prog 19 [.d (Bq p),.d (Ga l)] (XV (gL (ft p) (DX p l))):=by
 have hi30:=hf.i;have y:((BK p.it).map AI.id).Nodup:=by have:=GL hE;rwa [show fk p=BK p.it from ϱ hE] at this
 have W:kD (DX p l):=O8 y (Gy p l);have C:=λ{k:Nat} (R:k<(DX p l).length)=>ZT hE R;have hel:(DX p l).length<=30:=by have h1:(DX p l).length<=(BK p.it).length:=(by unfold DX;rw [χ];exact gz _ _);rw [aA] at h1;omega
 have M:=QO p l (by omega) (by omega);rw [cC] at M;have z:=λ{S:List Nat} (hS:∀j∈S,j<(DX p l).length)=>Yq y hS
 obtain ⟨E,hEE⟩:∃E,DX p l=E:=⟨_,Z⟩
 simp only [hEE] at W C hel M z⊢
 obtain ⟨n,X⟩:∃n,E.length=n:=⟨_,Z⟩
 rw [X] at M hel
 have v:∀{k:Nat},k<n ->((BC E (List.range n)).map AF)[k]? =some (AF (SQ E k)):=λ{k} R=>by
  have:=X8 (E:=E) (S:=List.range n) (m:=k) (by simpa using R)
  simpa using this
 have hll:(BC E (List.range n)).length=n:=by rw [Zo,gw]
 refine At func19 Z Z ntmps19 Z Z Z λF w=>(AC (AE ?_));refine V (Bo 1 Z Z Z Z Z Z Z) (AB Z Z (AD (AC (AE (J (Ay Z Z EM Z Z Z) (fZ Z Z (J (As (M) Z Z) (AB Z Z ?_))))))));refine AD (AC (AE (AB Z Z (AD (AC (AE (AB Z Z (AD ?_))))))));refine AC (AC (NG 7 901 BP Z Z Z Z (AE (AB Z Z (AD (AZ (NG 6 900 Nw Z Z Z Z (BO (α:=Nat×List (List Int)×List Nat) (λq=>⟨88,[(2,(.ptr 1 0 0)),(5,(.d (Ga (BC E (List.range n))))),(6,(.own 900 0 q.2.1.length)),(7,(.own 901 0 (BC E q.2.2).length)),(8,(.d (AR q.1)))],[(1,[.blk 25 [.d (.sl none (p.ro.map Bv)),.d (.sl none (p.it.map Ag))]]),(900,[.rowD 28 1 (q.2.1.map Ga)]),(901,[.rowD 3 1 ((BC E q.2.2).map AF)])]⟩) (λq=>q.1<=n/\q.2.1=(iM n q.1 (Cn (ft p) E)).map (BC E)/\q.2.2.length<=30*q.1/\(∀j∈q.2.2,j<E.length)/\∀k,k<E.length ->(k∈q.2.2↔∃j,j<q.1/\Cn (ft p) E j k)) (λq=>n - q.1) ((0,[],[])) (⟨ζ _,Z,ζ _,(λj L=>nomatch L),λk R=>⟨λh=>(nomatch h),λ⟨j,L,_⟩=>by omega⟩⟩) (AY w [1,900,901] Z Z F0) ?_))))))));rintro ⟨i,T,D⟩ ⟨hi,hT,hDl,G,hD⟩;dsimp only at hi hT hDl G hD⊢;refine AC (AC (AE (fZ Z Z (fZ Z Z (J (JZ Z (by rw [χ,hll]) ch Z) (J (BB Z Z Z) (AD (A9 Z (λh19=>?_) (λh19=>?_)))))))))
 .refine AX (AC (AZ (AC (AC ?_))));have O:i<n:=BR h19;have u:i<E.length:=by omega
  refine AE (fZ Z Z (fZ Z Z (fZ Z Z (J (BJ (i) Z Z (Z) (v O) ch Z BU Z) (J (CI Z Z An Z) (J (EK [901] (FM (BC E D) (SQ E i) (by rw [Zo];omega)) (by exact ⟨.inr ⟨_,_,Z,.own Z Z (by simp) (κ (by simp)),Z⟩,.inl Z,trivial⟩) Z Z) (AD (A9 Z (λh27=>?_) (λh27=>?_)))))))))
  .have P:i∈D:=(El W G u).1 h27;refine Aw (AE (fZ Z Z (J (Al Z Z (AM (i+1) (by omega)) Z) (AB Z Z (AD ?_)))));exact ⟨(i+1,T,D),⟨O,by show T=(iM n (i+1) _).map _;rw [Za λh=>(Ql u hD).2 h P];exact hT,by show D.length<=30*(i+1);omega,G,mE u hD P⟩,by show n - (i+1)<n - i;omega,AY w [1,900,901] Z (Z) F0⟩
  .have P:i∉D:=λh=>h27 ((El W G u).2 h);refine AX (AC (AE (fZ Z Z (fZ Z Z (J (BJ (i) Z Z (Z) (v O) ch Z BU Z) (J (CI Z Z An Z) (V (C5 902 BP Z Z Z Z Z Z Z Z) ?_)))))));refine AB Z Z (AD (AC (AC (AE (AB Z Z (AD (AZ (BO (α:=List Nat×Bool) (λq=>⟨88,[(2,(.ptr 1 0 0)),(5,(.d (Ga (BC E (List.range n))))),(6,(.own 900 0 T.length)),(7,(.own 901 0 (BC E D).length)),(8,(.d (AR i))),(9,(.own 902 0 (BC E q.1).length)),(10,(.d (Ah q.2)))],[(1,[.blk 25 [.d (.sl none (p.ro.map Bv)),.d (.sl none (p.it.map Ag))]]),(900,[.rowD 28 1 (T.map Ga)]),(901,[.rowD 3 1 ((BC E D).map AF)]),(902,[.rowD 3 1 ((BC E q.1).map AF)])]⟩) (λq=>PG (ft p) E i q.1/\(q.2=false ->∀k,k<E.length ->tg (ft p) E q.1 k)) (λq=>2*(E.length - q.1.length)+(if q.2 then 1 else 0)) (([i],true)) (⟨PG.zero u,λe=>nomatch e⟩) (AY w [1,900,901,902] Z Z Ri) ?_))))))));rintro ⟨K,gr⟩ ⟨s,hC0⟩;dsimp only at s hC0⊢;refine AC (AC (AE (fZ Z Z (AD (Iq Z (λh33=>?_) (λh33=>?_))))))
   .refine AX (AZ (AC ?_));refine AE (AB Z Z (AD (AC (AE (AB Z Z (AD (AZ (BO (α:=Nat×List Nat×Bool) (λq=>⟨88,[(2,(.ptr 1 0 0)),(5,(.d (Ga (BC E (List.range n))))),(6,(.own 900 0 T.length)),(7,(.own 901 0 (BC E D).length)),(8,(.d (AR i))),(9,(.own 902 0 (BC E q.2.1).length)),(10,(.d (Ah q.2.2))),(11,(.d (AR q.1)))],[(1,[.blk 25 [.d (.sl none (p.ro.map Bv)),.d (.sl none (p.it.map Ag))]]),(900,[.rowD 28 1 (T.map Ga)]),(901,[.rowD 3 1 ((BC E D).map AF)]),(902,[.rowD 3 1 ((BC E q.2.1).map AF)])]⟩) (λq=>q.1<=n/\PK (ft p) E i K q.1 q.2.1 q.2.2) (λq=>n - q.1) ((0,K,false)) (⟨ζ _,PK.zero s⟩) (AY w [1,900,901,902] Z Z S1) ?_))))))));rintro ⟨k,S,g⟩ ⟨R,o⟩;dsimp only at R o⊢;refine AC (AC (AE (fZ Z Z (fZ Z Z (J (JZ Z (by rw [χ,hll]) ch Z) (J (BB Z Z Z) (AD (A9 Z (λh37=>?_) (λh37=>?_)))))))))
    .refine AX (AC (AZ (AC (AC ?_))));have r:k<n:=BR h37;have c:k<E.length:=by omega
     have f:∀j∈S,j<E.length:=λj L=>(o.pg.con j L).1;have hSl:=o.pg.len;refine AE (fZ Z Z (fZ Z Z (fZ Z Z (J (BJ (k) Z Z (Z) (v r) ch Z BU Z) (J (CI Z Z An Z) (J (EK [902] (FM (BC E S) (SQ E k) (by rw [Zo];omega)) (by exact ⟨.inr ⟨_,_,Z,.own Z Z (by simp) (κ (by simp)),Z⟩,.inl Z,trivial⟩) Z Z) (AD (A9 Z (λh45=>?_) (λh45=>?_)))))))))
     .have hkS:k∈S:=(El W f c).1 h45;refine Aw ?_
      first | have b:=o.next a (λe=> .inr λx hx=>by subst e;obtain ⟨Q,B,rfl⟩:=ii.1 hx;exact (A Z).2 Q (by have t:=I;rw [Zo] at t;have h6:¬(m:Int)<(S.length:Int):=t;omega) B) | have b:=o.next a (λe=> .inl (by subst e;have t:SQ E k∈BC E (gT S k false):=(by simpa using H);exact (El W f c).1 t)) | skip
      refine AE (fZ Z Z (J (Al Z Z (AM (k+1) (by omega)) Z) (AB Z Z (AD ?_))));exact ⟨(k+1,S,g),⟨r,o.pass (.inl hkS)⟩,by show n - (k+1)<n - k;omega,AY w [1,900,901,902] Z (Z) S1⟩
     .have hkS:k∉S:=λh=>h45 ((El W f c).2 h);refine AX (AC (AE (AB Z Z (AD (AZ (BO (α:=Nat×Bool) (λq=>⟨88,[(2,(.ptr 1 0 0)),(5,(.d (Ga (BC E (List.range n))))),(6,(.own 900 0 T.length)),(7,(.own 901 0 (BC E D).length)),(8,(.d (AR i))),(9,(.own 902 0 (BC E (gT S k q.2)).length)),(10,(.d (Ah (if q.2=true then true else g)))),(11,(.d (AR k))),(12,(.d (AR q.1)))],[(1,[.blk 25 [.d (.sl none (p.ro.map Bv)),.d (.sl none (p.it.map Ag))]]),(900,[.rowD 28 1 (T.map Ga)]),(901,[.rowD 3 1 ((BC E D).map AF)]),(902,[.rowD 3 1 ((BC E (gT S k q.2)).map AF)])]⟩) (λq=>q.1<=S.length+1/\(q.2=false ->q.1<=S.length/\∀m,m<q.1 ->∀hm:m<S.length,¬J0 (ft p) (DJ E S[m]) (DJ E k))/\(q.2=true ->PG (ft p) E i (S++ [k]))) (λq=>if q.2 then 0 else S.length - q.1+1) ((0,false)) (⟨ζ _,λ_=>⟨ζ _,λm hm=>by omega⟩,λe=>nomatch e⟩) (AY w [1,900,901,902] Z Z b0) ?_))))));rintro ⟨m,hh⟩ ⟨hm,A,a⟩;dsimp only at hm A a⊢;refine AC (AC ?_);have hSr2:=qM (hh:=hh) f c;have hSl2:=dS S k hh;refine AE (fZ Z Z (fZ Z Z (J (Qp Z ch Z) (J (BB Z Z Z) (fZ Z Z (C3 50 Z (λI=>?_) (λI=>?_)))))))
      .refine AQ Z Z Z (fZ Z Z (AQ Z Z Z (fZ Z Z (AQ Z Z Z (fZ Z Z (AQ Z Z Z (J (BJ (k) Z Z (Z) (v r) ch Z BU Z) ?_)))))));refine AQ Z Z Z (J (CI Z Z An Z) (AQ Z Z Z (J (EK [902] (FM (BC E (gT S k hh)) (SQ E k) (by rw [Zo];omega)) (by exact ⟨.inr ⟨_,_,Z,.own Z Z (by simp) (κ (by simp)),Z⟩,.inl Z,trivial⟩) Z Z) (AQ Z Z Z (J (Jw Z Z) (J (B5 Z Z Z Z) (AD (A9 Z (λH=>?_) (λH=>?_)))))))))
       .refine AX (AC (AZ (AC ?_)));have hn58:SQ E k∉BC E (gT S k hh):=by simpa using H
        have hhf:hh=false:=Bool.eq_false_iff.2 λe=>hn58 (by rw [e];exact Θ.2 ⟨k,iy _ (η.2 Z),Z⟩);subst hhf;have Y:m<(BC E (gT S k false)).length:=BR I;have N:m<S.length:=by rw [Zo] at Y;exact Y
        have U:=R7 p hE hf (SQ E S[m]) (SQ E k) (C (f _ (ξ N))).1 (C c).1;rw [(C (f _ (ξ N))).2,(C c).2] at U;refine CZ [[],[],[],[1,2],[1,2,3],[],[],[5,6],[5,6,7],rg 9] mixed Z (CG (Ao [2] [1] Z Z (λ_=>Ae (Ay Z Z EM Z Z Z)) (Av 9 Z Z (Av 12 Z Z (Au [62,63] Z Z (λ_=>Ae (DB (m) Z Z (Z) (Y) Z ch BU Z)) ?_)))));refine Ao [64] [902] Z Z (λ_=>Ae (EA Z Z (X8 (S:=gT S k false) N) Z An Z)) (Av 5 Z Z (Av 11 Z Z (AU [66,67] Z (BJ (k) Z Z (Z) (v r) ch Z BU Z) (AU [68] Z (CI Z Z An Z) (CB 9 Z Z Z (Ad 10 Z Z (J (As (U) Z Z) (AD ⟨Z,?_⟩))))))));refine CM (A9 Z (λh70=>?_) (λh70=>?_))
        .refine AC (AE ?_);refine fZ Z Z (fZ Z Z (fZ Z Z (J (BJ (k) Z Z (Z) (v r) ch Z BU Z) (J (CI Z Z An Z) (V (C5 30 BP Z Z Z Z Z Z Z Z) (V (F2 ((BC E (gT S k false))) ([SQ E k]) Z Z Z Z Z Z Z Z BP (by simp only [ς];rw [Zo];omega) Z Z Z Z) (AB Z Z (AD ?_))))))));rw [show BC E (gT S k false)++ [SQ E k]=BC E (gT S k true) by unfold BC gT;rw [ϱ Z,θ (by decide),Ω];rfl];refine AE (AB Z Z (AD (AE (fZ Z Z (J (Al Z Z (AM (m+1) (by omega)) Z) (AB Z Z (AD ?_)))))));exact ⟨(m+1,true),⟨by show m+1<=_;omega,(λe=>nomatch e),λ_=>o.pg.add (ξ N) c hkS h70⟩,by show (if true=true then 0 else S.length - (m+1)+1)<(if false=true then 0 else S.length - m+1);simp,AY w [1,900,901,902] Z (Z) b0⟩
        .refine AX (AE (fZ Z Z (J (Al Z Z (AM (m+1) (by omega)) Z) (AB Z Z (AD ?_)))));exact ⟨(m+1,false),⟨by show m+1<=_;omega,λ_=>⟨by show m+1<=_;omega,λQ h1 h2=>(Nat.decEq Q m).byCases (λe=>by subst e;exact h70) λe=>(A Z).2 Q (by omega) h2⟩,λe=>nomatch e⟩,by show (if false=true then 0 else S.length - (m+1)+1)<(if false=true then 0 else S.length - m+1);simp;omega,AY w [1,900,901,902] Z (Z) b0⟩
       .refine Aw ?_
        first | have b:=o.next a (λe=> .inr λx hx=>by subst e;obtain ⟨Q,B,rfl⟩:=ii.1 hx;exact (A Z).2 Q (by have t:=I;rw [Zo] at t;have h6:¬(m:Int)<(S.length:Int):=t;omega) B) | have b:=o.next a (λe=> .inl (by subst e;have t:SQ E k∈BC E (gT S k false):=(by simpa using H);exact (El W f c).1 t)) | skip
        refine AE (fZ Z Z (J (Al Z Z (AM (k+1) (by omega)) Z) (AB Z Z (AD ?_))));exact ⟨(k+1,gT S k hh,(if hh=true then true else g)),⟨r,b⟩,by show n - (k+1)<n - k;omega,AY w [1,900,901,902] Z (Z) S1⟩
      .refine AL Z Z Z Z (AL Z Z Z Z ?_);refine AL Z Z Z Z (AL Z Z Z Z (AL Z Z Z Z (AL Z Z Z Z (AL Z Z Z Z (J (Bk Z Z Z Z) (AD (Cm Z Z (Aw ?_))))))))
       first | have b:=o.next a (λe=> .inr λx hx=>by subst e;obtain ⟨Q,B,rfl⟩:=ii.1 hx;exact (A Z).2 Q (by have t:=I;rw [Zo] at t;have h6:¬(m:Int)<(S.length:Int):=t;omega) B) | have b:=o.next a (λe=> .inl (by subst e;have t:SQ E k∈BC E (gT S k false):=(by simpa using H);exact (El W f c).1 t)) | skip
       refine AE (fZ Z Z (J (Al Z Z (AM (k+1) (by omega)) Z) (AB Z Z (AD ?_))));exact ⟨(k+1,gT S k hh,(if hh=true then true else g)),⟨r,b⟩,by show n - (k+1)<n - k;omega,AY w [1,900,901,902] Z (Z) S1⟩
    .refine Aw ?_;exact ⟨(S,g),⟨o.pg,λe k' hk'=>(o.no e).2 k' (by have:=h37;omega)⟩,by have h1:=o.pg.len;have h2:=o.le;show 2*(E.length - S.length)+(if g then 1 else 0)<2*(E.length - K.length)+(if gr then 1 else 0);rw [show gr=true from h33];cases hgr:g with | false=>rw [(o.no hgr).1];simp | true=>have h3:=o.yes hgr;simp;omega,AY w [1,900,901,902] Z (Z) Ri⟩
   .refine Aw (AC ?_);have hcl:=hC0 (by simpa using h33);have hSl0:=s.len;have hfl:(List.range n).filter (λj=>decide (j∈K))=(List.range n).filter λj=>dec (Cn (ft p) E i j):=jj λj L=>WH (s.fin hcl (by have:=Ψ.1 L;omega));have hpo:=QO p (BC E K) (by omega) (by rw [Zo];omega);rw [z λj L=>(s.con j L).1,X,hfl] at hpo;have hTl:T.length<=30:=by rw [hT,χ];have:=eS n i (Cn (ft p) E);omega
    refine LL (emb:=AF) 9 902 (BC E K) Z Z Z Z Z Z Z (AE (fZ Z Z (fZ Z Z (V (Qq ((BC E D)) ((BC E K)) Z Z Z Z Z Z (λ_=>rfl) BP (by rw [Zo,Zo];omega) Z Z Z Z) (AB Z Z (AD ?_))))));rw [show BC E D++BC E K=BC E (D++K) by unfold BC;rw [Ω]];refine AE (fZ Z Z (J (Ay Z Z EM Z Z Z) (fZ Z Z (J (As (hpo) Z Z) ?_))));refine V (C5 31 Nw Z Z Z Z Z Z Z Z) (V (F2 (T) ([BC E ((List.range n).filter λj=>dec (Cn (ft p) E i j))]) Z Z Z Z Z Z Z Z Nw (by simp only [ς];omega) Z Z Z Z) (AB Z Z (AD (AE (fZ Z Z (J (Al Z Z (AM (i+1) (by omega)) Z) (AB Z Z (AD ?_))))))));exact ⟨(i+1,T++ [_],D++K),⟨O,by show _=(iM n (i+1) _).map _;rw [eT ((Ql u hD).1 P),Ω,hT];rfl,by show (D++K).length<=30*(i+1);rw [Δ];omega,λj L=>(υ.1 L).elim (G j) λh=>(s.con j h).1,mC hD λk R=>s.fin hcl R⟩,by show n - (i+1)<n - i;omega,AY w [1,900,901] Z (Z) F0⟩
 .refine Aw (AC ?_);have hie:i=n:=by have:=h19;omega
  refine LL (emb:=Ga) 6 900 T Z Z Z Z Z Z Z ?_;rw [show T=gL (ft p) E by rw [hT,hie];unfold gL;rw [X];rfl];refine AE (fZ Z Z (AB Z Z (AD (A4 ?_))));exact ⟨_,[],[],A2 Z,Z,Z,Z,Z⟩
theorem eL (p:fj) (l:List Int) (g:Fw p) (f:l.length<=100000) (h:CX p l=0) (b:Az p=0) (c:l.Nodup):AK prog 23 [.d (Bq p),.d (Ga l)] (.tup [XV (gL (ft p) (DX p l)),AF 0]):=
 (qe p l g f h b c).mono λr k ⟨E,a,j,i⟩=>⟨by rw [j,WM (E':=DX p l) (by rw [a,Gy,show fk p=BK p.it from ϱ b])],i⟩
theorem Z1 {rs:List AT} {E E':List (AI×Nat)} (h:E.map Prod.fst=E'.map Prod.fst):i8 rs E=i8 rs E'/\BC E=BC E'/\E.length=E'.length:=by
 have c:DJ E=DJ E':=funext λk=>by rw [NT,NT,h]
 have b:E.length=E'.length:=by rw [<-χ (f:=Prod.fst),h,χ]
 refine ⟨?_,by funext S;unfold BC;rw [c],b⟩;have g:∀E:List (AI×Nat),i8 rs E=(E.map Prod.fst).map λa=>ik rs E a E.length:=λE=>by unfold i8;rw [gZ];rfl
 simp [*,ik]
theorem o7 {b:AI}:∀k∈ik a E b u,k<u:=λk c=>Ψ.1 (gS.1 c).1
def nY (ids:List Int) (m k:Nat):List Int:=((List.range k).filter λj=>decide (m / 2^j % 2=1)).map λj=>ids.getD j 0
def vX (p:fj) (ids:List Int) (M:Nat) (x:Int):Prop:=∃m,m<M/\da p (nY ids m ids.length)/\x∈nY ids m ids.length
noncomputable instance (p:fj) (ids:List Int) (M:Nat) (x:Int):Decidable (vX p ids M x):=Classical.propDecidable _
theorem RY {a:List AI} (c:(a.map AI.id).Nodup) (b:Nat ->Bool):Eg a b a.length=(a.map AI.id).filter λx=>decide (x∈Eg a b a.length):=by
 obtain ⟨l,f⟩:∃l,Eg a b a.length=l:=⟨_,Z⟩
 have g:a.map AI.id=(List.range a.length).map λi=>(a.getD i Af).id:=by
  conv=>lhs;rw [ZS a]
  rw [gZ];rfl
 grind [jj,pF,Eg]
theorem ez (h:CU w x t s N M) {a:Nd} (c:N.nd[i]? =some a):AO prog 146 [.d (pD (t i) 0)] (HN M) λr g=>r= .d (Ah a.on)/\g=HN M:=by
 have b:=h.n i a c;refine At func146 Z Z ntmps146 Z Z Z λF j=>(AC (AE (AB Z Z (AD ?_))));refine AC (AE (fZ Z Z (J (Dg Z Z) (J (C9 Z FP Z Z Z) (J (EE (f:=40) Z Z (b) Z pG Z) (AB Z Z (AD (A4 ?_))))))));exact ⟨_,[40],_,A2 Z,Z,Z,Z,Z⟩
theorem eu (h:CU w x t s N M) (e:Nat×Int) {y:Po} (b:N.po[e.1]? =some y) (c: -1000000000000000000<=y.room/\y.room<=1000000000000000000) (f: -2000000000000000000<=e.2/\e.2<=2000000000000000000):AO prog 149 [.d (dq s e)] (HN M) λr g=>r= .d (Ah (TN y e.2))/\g=HN M:=by
 have a:=M9 h b e.2 c f;refine At func149 Z Z ntmps149 Z Z Z λF i=>(AC (AE (V (Bo 1 Z Z Z Z Z Z Z) (AB Z Z (AD (AC ?_))))));refine AE (J (AN Z Rp Z Z Z) (J (AP Z Z Z FA Z) (J (AN Z Ro Z Z Z) (J (AP Z Z Z GE Z) (V (FE a Z [40] ⟨Z,trivial⟩ Z Z Z Z Z Z Z Z Z) (AB Z Z (AD (A4 ?_))))))));exact ⟨_,[40],_,A2 Z,Z,Z,Z,Z⟩
abbrev oT (wb mv:Nat) (bs:Option (List Nat×Nat)) (L:List (Int×Value)) (M:MF):Hp:=(910,[.blk 171 [.d (pD wb 0)]])::HW mv bs L M
theorem ew (u:Option (List Nat×Nat)) (h:CU w x t s N M) (v:(B4 N).Nodup) {id:Int} (k:id∈B4 N):AO prog 147 [.d (AF id),.ptr 910 0 0] (oT w x u (GR t (B4 N)) M) λr y=>r= .d (Ah (!Dq N id))/\y=oT w x u (GR t (B4 N)) M:=by
 have i:=h.w;have a:=kJ k;have b:(B4 N).idxOf id<N.nd.length:=by unfold B4 at a⊢;rw [χ] at a;exact a
 obtain ⟨z,o⟩:∃z,N.nd[(B4 N).idxOf id]? =some z:=⟨_,ω b⟩
 have l:N.nd.getD ((B4 N).idxOf id) CQ=z:=by rw [Φ,o];rfl
 have g:=h.n _ z o;have c:=SH (nb:=t) v a;rw [List.getElem_idxOf a] at c;have j:(!Dq N id)=z.on:=by unfold Dq;rw [l,Bool.not_not]
 refine At func147 Z Z ntmps147 Z Z Z λF A=>(AC ?_);refine AE (AB Z Z (AD (AC (AE (J (AP Z Z Z XF Z) (J (Dg Z Z) (J (C9 Z NW Z Z Z) (J (EE (f:=40) Z Z (i) Z XD Z) ?_))))))));refine Ds 7 51 0 Z Z (fZ Z Z (J (II (GR t (B4 N)) id (.pointer none) (pV (t ((B4 N).idxOf id)) 0) Z Z Z XQ IF W0 c Z) (J (Dg Z Z) (J (C9 Z FP Z Z Z) (J (EE (f:=40) Z Z (g) Z pG Z) (AB Z Z (AD (A4 ?_))))))));exact ⟨_,[910,40,50,51],_,A2 Z,Z,Z,by rw [j],Z⟩
section
variable {P:Program} {F:Fr} {s:AS} {d:Nat} {x hi:Operand} {T E:TypeId} {ty:TypeId} {pos:String} {aft:Array Edge} {g:Option (Nat×Bool)}
theorem Sd {b n a c:Nat} (h:Nat) {k:IntKind} {i:Int} (l:s.ev x=some (.d (.raw (sV b n a)))) (f:s.ev hi=some (.d (.raw (.int k i)))) (o:i=(h:Int)) (v:h<=a) (t:P.underlying T=some (.slice E)) (u:A3 P E c=true) (r:Nat.blt d s.n=true):
  AA P F ⟨some d,.slice T x none (some hi) none,ty,pos,aft,g⟩ s d (.d (.raw (sV b h a))):=
 Cv _ r λ_ y w j=>by
  have e:=j.raw l;subst o;refine ⟨.slice (if a=0 then some ⟨b,0,none⟩ else (some (⟨b,0,none⟩:Addr)).map (·.add (0*c))) (h - 0) (a - 0),by simp only [execOp,e,iY,jg,j.raw f,Sem.run_bind,HX t (Zq u) v,Result.andThen_ok,Sem.run_pure],?_⟩
  have:Value.slice (if a=0 then some ⟨b,0,none⟩ else (some (⟨b,0,none⟩:Addr)).map (·.add (0*c))) (h - 0) (a - 0)=sV b h a:=by
   split<;>simp [Addr.add]
  rw [this];exact .d (.raw Z)
end
variable {a c:Nat ->Nat} {N:fv} {M:MF} {f g:Nat} {h:List Nat} {i:Hd} {j:Nat} {x:Nd}
def Kc {α:Type} (p:α ->Bool) (l:List α):Int:=match l.findIdx? p with
 | some k=>k
 | none=> -1
theorem qI {H K:Nat} {E I:Nat ->Nat} {N:fv} {M:MF} (h:CU H K E I N M) {t:Hd} {q:List Nat} (v:BV M t 176 1 (q.map λi=>BX (E i))) (u:∀i∈q,i<N.nd.length) (m:Nat) (W:m<=q.length) (Q:q.length<=100000):
  AO prog 97 [.d (fy t m),.d (.raw (.func (.func 146) #[] #[]))] (HN M) λr S=>r= .d (AF (Kc (gu N) (q.take m)))/\S=HN M:=by
 have L:t=none ->m=0:=λe=>by have:=Um v e;omega
 have P:(q.take m).length=m:=by rw [ϖ];omega
 refine At func97 Z Z ntmps97 Z Z Z λF G=>(AC (AE (AB Z Z (AD ?_))));refine AC (AC (AE (fZ Z Z (J (WU L Z fS Z) (fZ Z Z (AD (AZ (BO (α:=Nat) (λk=>⟨19,[(0,.d (fy t m)),(1,.d (.raw (.func (.func 146) #[] #[]))),(7,(.d (AF (m:Int)))),(8,(.d (AF (k:Int))))],HN M⟩) (λk=>k<=m/\∀x∈(q.take m).take k,gu N x=false) (λk=>m - k) (0) (⟨ζ _,by simp⟩) (AY G [40] Z Z E0) ?_))))))));rintro k ⟨R,A⟩;refine AC (AE (J (BB Z Z Z) (AD (AC (A9 Z (λD=>?_) (λD=>?_))))))
 .have w:k<m:=BR D;refine AX (AC (AZ (AC ?_)));have a:k<q.length:=by omega
  have s:k<(q.take m).length:=by omega
  obtain ⟨U,T,l⟩:=Uz v a;have j:=ST v l;have B:=u _ (ξ a)
  obtain ⟨z,c⟩:∃z,N.nd[q[k]]? =some z:=⟨_,ω B⟩
  have C:=ez h c;have o:gu N q[k]=z.on:=by unfold gu;rw [Φ,c];rfl
  refine AE (fZ Z Z (AB Z Z (AD (AC ?_))));refine AE (fZ Z Z (fZ Z Z (fZ Z Z (J (WV l (k) Z Z Z w fS MZ Z) (J (nH (f:=40) (e:=k) (off:=0) Z (by omega) Z (j) (A5 a) Z OO Z) (V (Uy C Z [40] ⟨Z,trivial⟩ Z Z Z Z Z Z Z Z Z) (AD (Iq Z (λb=>?_) (λb=>?_)))))))))
  .refine AC (AE (fZ Z Z (AB Z Z (AD (A4 ?_)))));exact ⟨_,[40],_,A2 Z,Z,Z,Ab (by unfold Kc;rw [GO s A (by rw [List.getElem_take,o];simpa using b)]),Z⟩
  .refine AX (AE (J (Al Z Z (AM (k+1) (by omega)) Z) (fZ Z Z (AD ?_))));exact ⟨k+1,⟨by show k+1<=_;omega,by rw [ψ s];intro y g;rcases υ.1 g with g | g;exact A y g;rw [η.1 g,List.getElem_take];rw [o];simpa using b⟩,by show m - (k+1)<m - k;omega,AY G [40] Z (Z) E0⟩
 .refine Aw (AC (AE (AB Z Z (AD (A4 ?_)))));exact ⟨_,[40],_,A2 Z,Z,Z,Ab (by unfold Kc;rw [Hh (λx O=>A x (by rw [κ (by have h:=D;omega)];exact O))]),Z⟩
theorem Vr {a:Type} {p:a ->Bool} {l:List a}:(Kc p l>=0)↔l.any p=true:=by grind [Kc]
theorem mM (j:CU f g c a N M) (o:BV M i 176 1 (h.map λb=>BX (c b))) (k:∀b∈h,b<N.nd.length) (m:Nat) (s:m<=h.length) (l:h.length<=100000):
  AO prog 145 [.d (fy i m),.d (.raw (.func (.func 146) #[] #[]))] (HN M) λr t=>r= .d (Ah ((h.take m).any (gu N)))/\t=HN M:=by
 refine At func145 Z Z ntmps145 Z Z Z λF u=>(AC (AE (AB Z Z (AD ?_))));refine AC (AE (fZ Z Z (fZ Z Z (V (FE (qI j o k m s l) Z [40] ⟨Z,trivial⟩ Z Z Z Z Z Z Z Z Z) (J (EJ Z Z Z) (AB Z Z (AD (A4 ?_))))))));exact ⟨_,[40],_,A2 Z,Z,Z,QE (by rw [ju,iz];exact Vr),Z⟩
theorem qG {D H:Nat} {G E:Nat ->Nat} {N:fv} {M:MF} (h:CU D H G E N M) (u:iO N) {i:Nat} {x:Nd} (B:N.nd[i]? =some x):
  AO prog 197 [.d (fy x.eh x.ef.length),.d (.raw (.func (.func 149) #[] #[]))] (HN M) λr Q=>r= .d (AF (Kc (λe:Nat×Int=>TN (N.po.getD e.1 Ce) e.2) x.ef))/\Q=HN M:=by
 obtain ⟨K,g,_⟩:=h.nn i x B;have c:=ϑ B;have O:=(u.l x c).1;have I:=Um g;refine At func197 Z Z ntmps197 Z Z Z λF C=>(AC (AE (AB Z Z (AD ?_))));refine AC (AC (AE (fZ Z Z (J (WU I Z underlying181 Z) (fZ Z Z (AD (AZ (BO (α:=Nat) (λk=>⟨19,[(0,.d (fy x.eh x.ef.length)),(1,.d (.raw (.func (.func 149) #[] #[]))),(7,(.d (AF (x.ef.length:Int)))),(8,(.d (AF (k:Int))))],HN M⟩) (λk=>k<=x.ef.length/\∀e∈x.ef.take k,(λe:Nat×Int=>TN (N.po.getD e.1 Ce) e.2) e=false) (λk=>x.ef.length - k) (0) (⟨ζ _,by simp⟩) (AY C [40] Z Z E0) ?_))))))));rintro k ⟨L,v⟩;refine AC (AE (J (BB Z Z Z) (AD (AC (A9 Z (λA=>?_) (λA=>?_))))))
 .have a:k<x.ef.length:=BR A;refine AX (AC (AZ (AC ?_)));obtain ⟨S,R,b⟩:=Uz g a;have o:=ST g b;have w:=(h.e x c).1 _ (ξ a)
  obtain ⟨y,t⟩:∃y,N.po[x.ef[k].1]? =some y:=⟨_,ω w⟩
  have s:N.po.getD x.ef[k].1 Ce=y:=by rw [Φ,t];rfl
  have P:=u.e x c _ (ξ a);have z:=eu h x.ef[k] t (u.rm y (ϑ t)) ⟨by omega,by omega⟩;refine AE (fZ Z Z (AB Z Z (AD (AC ?_))));refine AE (fZ Z Z (fZ Z Z (fZ Z Z (J (WV b (k) Z Z Z a underlying181 S9 Z) (J (EI (f:=40) (e:=k) Z (Z) Z (o) (A5 a) Z bN Z) (V (Uy z Z [40] ⟨Z,trivial⟩ Z Z Z Z Z Z Z Z Z) (AD (A9 Z (λl=>?_) (λl=>?_)))))))))
  .refine AC (AE (fZ Z Z (AB Z Z (AD (A4 ?_)))));exact ⟨_,[40],_,A2 Z,Z,Z,Ab (by unfold Kc;rw [GO a v (by show TN (N.po.getD x.ef[k].1 Ce) x.ef[k].2=true;rw [s];unfold TN;exact gQ l)]),Z⟩
  .refine AX (AE (J (Al Z Z (AM (k+1) (by omega)) Z) (fZ Z Z (AD ?_))));exact ⟨k+1,⟨by show k+1<=_;omega,by rw [ψ a];intro e j;rcases υ.1 j with j | j;exact v e j;rw [η.1 j];show TN (N.po.getD x.ef[k].1 Ce) x.ef[k].2=false;rw [s];unfold TN;exact gV l⟩,by show x.ef.length - (k+1)<x.ef.length - k;omega,AY C [40] Z (Z) E0⟩
 .refine Aw (AC (AE (AB Z Z (AD (A4 ?_)))));exact ⟨_,[40],_,A2 Z,Z,Z,Ab (by unfold Kc;rw [Hh (λe j=>v e (by rw [κ (by have h:=A;omega)];exact j))]),Z⟩
theorem mK (h:CU f g c a N M) (k:iO N) (b:N.nd[j]? =some x):
  AO prog 148 [.d (fy x.eh x.ef.length),.d (.raw (.func (.func 149) #[] #[]))] (HN M) λr l=>r= .d (Ah (x.ef.any λe:Nat×Int=>TN (N.po.getD e.1 Ce) e.2))/\l=HN M:=by
 refine At func148 Z Z ntmps148 Z Z Z λF o=>(AC (AE (AB Z Z (AD ?_))));refine AC (AE (fZ Z Z (fZ Z Z (V (FE (qG h k b) Z [40] ⟨Z,trivial⟩ Z Z Z Z Z Z Z Z Z) (J (EJ Z Z Z) (AB Z Z (AD (A4 ?_))))))));exact ⟨_,[40],_,A2 Z,Z,Z,QE (by rw [ju,iz];exact Vr),Z⟩
theorem qH (o:Option (List Nat×Nat)) (h:CU f g c a N M) (y:(B4 N).Nodup) (l:List Int) (D:l.length<=100000) (t:∀id∈l,id∈B4 N):
  AO prog 138 [.d (.sl none (l.map AF)),.fn 147 [.ptr 910 0 0]] (oT f g o (GR c (B4 N)) M) λr C=>r= .d (AF (Kc (λid=>!Dq N id) l))/\C=oT f g o (GR c (B4 N)) M:=by
 obtain ⟨L,B⟩:∃L,GR c (B4 N)=L:=⟨_,Z⟩
 have v:=λid A=>ew (id:=id) o h y A;rw [B] at v⊢;refine At func138 Z Z ntmps138 Z Z Z λF w=>(AC (AE (AB Z Z (AD ?_))));refine AC (AC (AE (fZ Z Z (J (Ba Z ch Z) (fZ Z Z (AD (AZ (BO (α:=Nat) (λk=>⟨19,[(0,.d (.sl none (l.map AF))),(1,.fn 147 [.ptr 910 0 0]),(7,(.d (AF (l.length:Int)))),(8,(.d (AF (k:Int))))],oT f g o L M⟩) (λk=>k<=l.length/\∀x∈l.take k,(λid=>!Dq N id) x=false) (λk=>l.length - k) (0) (⟨ζ _,by simp⟩) (AY w [910,40,50,51] Z Z E0) ?_))))))));rintro k ⟨z,s⟩;refine AC (AE (J (BB Z Z Z) (AD (AC (A9 Z (λu=>?_) (λu=>?_))))))
 .have b:k<l.length:=BR u;refine AX (AC (AZ (AC (AE (fZ Z Z (AB Z Z (AD (AC ?_))))))));refine AE (fZ Z Z (fZ Z Z (fZ Z Z (J (BJ (k) Z Z (Z) (A5 b) ch Z BU Z) (J (CI Z Z An Z) (V (Uy (v l[k] (t _ (ξ b))) Z [910,40,50,51] ⟨Z,Z,Z,Z,trivial⟩ Z Z Z Z Z Z Z Z Z) (AD (Iq Z (λj=>?_) (λj=>?_)))))))))
  .refine AC (AE (fZ Z Z (AB Z Z (AD (A4 ?_)))));exact ⟨_,[910,40,50,51],_,A2 Z,Z,Z,Ab (by unfold Kc;rw [GO b s (by simpa using j)]),Z⟩
  .refine AX (AE (J (Al Z Z (AM (k+1) (by omega)) Z) (fZ Z Z (AD ?_))));exact ⟨k+1,⟨by show k+1<=_;omega,by rw [ψ b];intro x i;rcases υ.1 i with i | i;exact s x i;rw [η.1 i];simpa using j⟩,by show l.length - (k+1)<l.length - k;omega,AY w [910,40,50,51] Z (Z) E0⟩
 .refine Aw (AC (AE (AB Z Z (AD (A4 ?_)))));exact ⟨_,[910,40,50,51],_,A2 Z,Z,Z,Ab (by unfold Kc;rw [Hh (λx i=>s x (by rw [κ (by have h:=u;omega)];exact i))]),Z⟩
theorem mL (i:Option (List Nat×Nat)) (h:CU f g c a N M) (j:(B4 N).Nodup) (l:List Int) (k:l.length<=100000) (b:∀id∈l,id∈B4 N):
  AO prog 130 [.d (.sl none (l.map AF)),.fn 147 [.ptr 910 0 0]] (oT f g i (GR c (B4 N)) M) λr o=>r= .d (Ah (l.any λid=>!Dq N id))/\o=oT f g i (GR c (B4 N)) M:=by
 refine At func130 Z Z ntmps130 Z Z Z λF s=>(AC (AE (AB Z Z (AD ?_))));refine AC (AE (fZ Z Z (fZ Z Z (V (FE (qH i h j l k b) Z [910,40,50,51] ⟨Z,Z,Z,Z,trivial⟩ Z Z Z Z Z Z Z Z Z) (J (EJ Z Z Z) (AB Z Z (AD (A4 ?_))))))));exact ⟨_,[910,40,50,51],_,A2 Z,Z,Z,QE (by rw [ju,iz];exact Vr),Z⟩
section
variable {P:Program} {F:Fr} {s:AS} {d:Nat} {x hi:Operand} {T E:TypeId} {ty:TypeId} {pos:String} {aft:Array Edge} {g:Option (Nat×Bool)}
theorem Se {h:Hd} {b n a i:Nat} (o:h=some (b,a)) (m:Nat) {j:IntKind} {f:Int} (k:s.ev x=some (.d (fy h n))) (c:s.ev hi=some (.d (.raw (.int j f)))) (l:f=(m:Int)) (v:m<=a) (t:P.underlying T=some (.slice E)) (u:A3 P E i=true) (r:Nat.blt d s.n=true):
  AA P F ⟨some d,.slice T x none (some hi) none,ty,pos,aft,g⟩ s d (.d (fy h m)):=by
 subst o;exact Sd m k c l v t u r
end
variable {a:List Ac} {c:Nat ->Bool} {f:List AI} {N:fv} {R:Int ->Int ->Prop} {i:Nat} {x:Nd} {g:fj} {h Y:List Ac} {j k:Nat ->Nat} {o:List Po} {M:MF} {s t u:Nat} {y:Po}
def bo (N:fv) (e:Nat×Nat):Bool:=((N.po.getD e.1 Ce).q.take e.2).any (gu N)
def EZ (N:fv) (x:Nd):Bool:=!(x.pl.any (bo N)) &&(!(x.it.af.any λid=>!Dq N id) && !(x.ef.any λe:Nat×Int=>TN (N.po.getD e.1 Ce) e.2))
theorem tW (h:x.pl.any (bo N)=true):EZ N x=false:=by unfold EZ;rw [h];rfl
theorem tY (a:x.pl.any (bo N)=false) (h:(x.it.af.any λid=>!Dq N id)=true):EZ N x=false:=by unfold EZ;rw [a,h];rfl
theorem tX (a:x.pl.any (bo N)=false) (h:(x.it.af.any λid=>!Dq N id)=false):EZ N x=!(x.ef.any λe:Nat×Int=>TN (N.po.getD e.1 Ce) e.2):=by unfold EZ;rw [a,h];simp
set_option maxHeartbeats 1000000 in
theorem mo (P:Option (List Nat×Nat)) (h:CU s t k j N M) (C:iO N) (U:N.nd[i]? =some x):
  AO prog 99 [.d (pD s 0),.d (pD (k i) 0)] (HW t P (GR k (B4 N)) M) λr H'=>r= .d (Ah (EZ N x))/\H'=HW t P (GR k (B4 N)) M:=by
 have c:=ϑ U;obtain ⟨l,hre,o⟩:=h.nn i x U;have W:=Um o;obtain ⟨_,hpl,hafl⟩:=C.l x c;have T:=h.e x c;have S:=C.p x c;have O:=mL P h C.i x.it.af (by omega) (C.a x c);have hc3:=mK h C U
 obtain ⟨L,hL⟩:∃L,GR k (B4 N)=L:=⟨_,Z⟩
 rw [hL] at O⊢;refine At func99 Z Z ntmps99 Z Z Z λF hF=>(AC (AE (V (Bo 910 Z Z Z Z Z Z Z) (AB Z Z (AD (AC (AC (AE ?_))))))));refine fZ Z Z (J (Dg Z Z) (J (C9 Z Kr Z Z Z) (J (EE (f:=40) Z Z (l) Z XB Z) (J (WU W Z underlying182 Z) (fZ Z Z (AD (AZ (BO (α:=Nat) (λa=>⟨39,[(1,.d (pD (k i) 0)),(2,(.ptr 910 0 0)),(10,(.d (fy x.ph x.pl.length))),(11,(.d (AF (x.pl.length:Int)))),(12,(.d (AF (a:Int))))],oT s t P L M⟩) (λa=>a<=x.pl.length/\∀e∈x.pl.take a,bo N e=false) (λa=>x.pl.length - a) (0) (⟨ζ _,by simp⟩) (AY hF [910,40,50,51] Z Z F0) ?_))))))));rintro a ⟨hk0,u⟩;refine AC (AE (J (BB Z Z Z) (AD (AC (A9 Z (λB=>?_) (λB=>?_))))))
 .have b:a<x.pl.length:=BR B;refine AX (AC (AZ (AC ?_)));obtain ⟨eb,ec,K⟩:=Uz o b;have E:=ST o K;have X:x.pl[a].1<N.po.length:=T.2 _ (ξ b)
  obtain ⟨y,R⟩:∃y,N.po[x.pl[a].1]? =some y:=⟨_,ω X⟩
  have v:N.po.getD x.pl[a].1 Ce=y:=by rw [Φ,R];rfl
  have D:=ϑ R;obtain ⟨Q,g⟩:=h.pp _ y R;have H:=S _ (ξ b);rw [v] at H;obtain ⟨qb,qc,G⟩:=Uz g H.1;have hqc:y.q.length<=qc:=by have h1:=g;rw [G] at h1;have h2:=h1.1;rw [χ] at h2;exact h2
  have Y:=mM h g (h.q y D) x.pl[a].2 (by omega) (by have h1:=C.ql y D;omega);refine AE (J (WV K (a) Z Z Z b underlying182 Ps Z) ?_);refine J (EI (f:=40) (e:=a) Z (Z) Z (E) (A5 b) Z bM Z) (V (By 911 WZ Z Z Z Z) (V (B3 Z Z Z Z Z Z Z Ps) (AD (AC (CZ [[],[0],[0,1],[0,1,2],[0,1,2,3],[],[5],rg 7,rg 8] mixed Z (CG (AU [6] Z (AN Z Hk Z Z Z) (Ao [16] [911] Z Z (λ_=>Ae (AP Z Z Z FA Z)) ?_))))))));refine AU [17] Z (Dg Z Z) (AU [18] Z (C9 Z Hl Z Z Z) (Ao [19] [40] Z Z (λ_=>Ae (EE (f:=40) Z Z (Q) Z Gp Z)) (AU [6] Z (AN Z Rm Z Z Z) (Ao [21] [911] Z Z (λ_=>Ae (AP Z Z Z An Z)) (CB 7 Z Z Z (Ad 8 Z Z (J (Se G x.pl[a].2 Z Z Z (by omega) fS MZ Z) (AD ⟨Z,?_⟩))))))));refine Ad 9 Z Z (V (FE Y Z [40] ⟨Z,trivial⟩ Z Z Z Z Z Z Z Z Z) (AD ⟨Z,?_⟩));refine CM (Iq Z (λA=>?_) (λA=>?_))
  .refine AC (AE (AB Z Z (AD (A4 ?_))));exact ⟨_,[40,50,51],_,A2 Z,Z,Z,by rw [tW (List.any_eq_true.2 ⟨_,ξ b,by unfold bo;rw [v];simpa using A⟩)],Z⟩
  .refine AX (AE (J (Al Z Z (AM (a+1) (by omega)) Z) (fZ Z Z (AD ?_))));exact ⟨a+1,⟨by show a+1<=_;omega,by rw [ψ b];intro e w;rcases υ.1 w with w | w;exact u e w;rw [η.1 w];unfold bo;rw [v];simpa using A⟩,by show x.pl.length - (a+1)<x.pl.length - a;omega,AY hF [910,40,50,51] Z (Z) F0⟩
 .refine Aw (AC (AC ?_));have I:x.pl.any (bo N)=false:=by rw [List.any_eq_false];intro e w;have e1:a=x.pl.length:=(by have h:=B;omega);rw [e1,gc] at u;rw [u e w];simp
  refine AE ?_;refine fZ Z Z (J (Dg Z Z) (J (C9 Z GP Z Z Z) (J (C9 Z EV Z Z Z) (J (EE (f:=40) Z Z (l) Z BL Z) (J (qw Z Z) (V (FE O Z [910,40,50,51] ⟨Z,Z,Z,Z,trivial⟩ Z Z Z Z Z Z Z Z Z) (AD (Iq Z (λz=>?_) (λz=>?_)))))))))
  .refine AC (AE (AB Z Z (AD (A4 ?_))));exact ⟨_,[40,50,51],_,A2 Z,Z,Z,by rw [tY I (by simpa using z)],Z⟩
  .refine AX (AC (AE ?_));refine fZ Z Z (J (Dg Z Z) (J (C9 Z Ks Z Z Z) (J (EE (f:=40) Z Z (l) Z XC Z) (V (FE hc3 Z [40] ⟨Z,trivial⟩ Z Z Z Z Z Z Z Z Z) (J (Mp Z Z) (AB Z Z (AD (A4 ?_))))))));exact ⟨_,[40,50,51],_,A2 Z,Z,Z,by rw [tX I (by simpa using z)],Z⟩
abbrev HG (wb mv:Nat) (bs:Option (List Nat×Nat)) (L:List (Int×Value)) (M:MF):Hp:=(920,[.blk 171 [.d (pD wb 0)]])::HW mv bs L M
theorem dV (g:Option (List Nat×Nat)) (h:CU s t k j N M) (o:iO N) {i:Nat} {x:Nd} (l:N.nd[i]? =some x):
  AO prog 98 [.d (pD (k i) 0),.ptr 920 0 0] (HG s t g (GR k (B4 N)) M) λr v=>r= .d (Ah (x.on && EZ N x))/\v=HG s t g (GR k (B4 N)) M:=by
 have b:=h.n i x l;have a:=mo g h o l
 obtain ⟨L,u⟩:∃L,GR k (B4 N)=L:=⟨_,Z⟩
 rw [u] at a⊢;refine At func98 Z Z ntmps98 Z Z Z λF w=>(AC (AE (AB Z Z ?_)));refine AD (AC (AE (fZ Z Z (J (Dg Z Z) (J (C9 Z FP Z Z Z) (J (EE (f:=40) Z Z (b) Z pG Z) (fZ Z Z (KU 8 Z (λc=>?_) (λc=>?_)))))))));refine AQ Z Z Z (J (AP Z Z Z XF Z) (AQ Z Z Z (fZ Z Z (AQ Z Z Z (V (FE a Z [40,50,51] ⟨Z,Z,Z,trivial⟩ Z Z Z Z Z Z Z Z Z) (J (B5 Z Z Z Z) ?_))))))
 rotate_left
 refine AL Z Z Z Z (AL Z Z Z Z (AL Z Z Z Z (J (Bk Z Z Z Z) ?_)))
 all_goals
  refine AB Z Z (AD (A4 ?_));exact ⟨_,[920,40,50,51],_,A2 Z,Z,Z,by rcases Bool.eq_false_or_eq_true x.on with e | e<;>rw [e] at c⊢<;>first | rfl | (simp at c),rfl⟩
def Oe (N:fv) (i:Nat):Bool:=(N.nd.getD i CQ).on && EZ N (N.nd.getD i CQ)
theorem qE (C:Option (List Nat×Nat)) (h:CU s t k j N M) (I:iO N):
  AO prog 97 [.d (fy N.nh N.nd.length),.fn 98 [.ptr 920 0 0]] (HG s t C (GR k (B4 N)) M) λr T=>r= .d (AF (Kc (Oe N) (List.range N.nd.length)))/\T=HG s t C (GR k (B4 N)) M:=by
 have c:BV M N.nh bj 1 ((List.range N.nd.length).map λi=>BX (k i)):=h.rs.1 .n;have P:N.nh=none ->N.nd.length=0:=λe=>by have O:=Um c e;rw [gw] at O;exact O
 have Q:=I.n.1;have B:=λi x D=>dV (i:=i) (x:=x) C h I D
 obtain ⟨L,S⟩:∃L,GR k (B4 N)=L:=⟨_,Z⟩
 rw [S] at B⊢;refine At func97 Z Z ntmps97 Z Z Z λF K=>(AC (AE (AB Z Z (AD ?_))));refine AC (AC (AE (fZ Z Z (J (WU P Z fS Z) (fZ Z Z (AD (AZ (BO (α:=Nat) (λa=>⟨19,[(0,.d (fy N.nh N.nd.length)),(1,.fn 98 [.ptr 920 0 0]),(7,(.d (AF (N.nd.length:Int)))),(8,(.d (AF (a:Int))))],HG s t C L M⟩) (λa=>a<=N.nd.length/\∀x∈(List.range N.nd.length).take a,Oe N x=false) (λa=>N.nd.length - a) (0) (⟨ζ _,by simp⟩) (AY K [920,40,50,51] Z Z E0) ?_))))))));rintro a ⟨R,E⟩;refine AC (AE (J (BB Z Z Z) (AD (AC (A9 Z (λH=>?_) (λH=>?_))))))
 .have b:a<N.nd.length:=BR H;refine AX (AC (AZ (AC ?_)));have g:a<(List.range N.nd.length).length:=by rw [gw];exact b
  obtain ⟨W,U,w⟩:=Uz c g;have v:=ST c w
  obtain ⟨z,o⟩:∃z,N.nd[a]? =some z:=⟨_,ω b⟩
  have G:=B a z o;have A:Oe N a=(z.on && EZ N z):=by unfold Oe;rw [Φ,o];rfl
  refine AE (fZ Z Z ?_);refine AB Z Z (AD (AC (AE (fZ Z Z (fZ Z Z (fZ Z Z (J (WV w (a) Z Z Z b fS MZ Z) (J (nH (f:=40) (e:=a) (off:=0) Z (by omega) Z (v) ((by rw [ν,jM b];rfl)) Z OO Z) ?_))))))));refine V (Uy G Z [920,40,50,51] ⟨Z,Z,Z,Z,trivial⟩ Z Z Z Z Z Z Z Z Z) (AD (Iq Z (λl=>?_) (λl=>?_)))
  .refine AC (AE (fZ Z Z (AB Z Z (AD (A4 ?_)))));exact ⟨_,[920,40,50,51],_,A2 Z,Z,Z,Ab (by unfold Kc;rw [GO g E (by rw [kL,A];simpa using l)]),Z⟩
  .refine AX (AE (J (Al Z Z (AM (a+1) (by omega)) Z) (fZ Z Z (AD ?_))));exact ⟨a+1,⟨by show a+1<=_;omega,by rw [ψ g];intro y u;rcases υ.1 u with u | u;exact E y u;rw [η.1 u,kL,A];simpa using l⟩,by show N.nd.length - (a+1)<N.nd.length - a;omega,AY K [920,40,50,51] Z (Z) E0⟩
 .refine Aw (AC (AE (AB Z Z (AD (A4 ?_)))));exact ⟨_,[920,40,50,51],_,A2 Z,Z,Z,Ab (by unfold Kc;rw [Hh (λx D=>E x (by rw [κ (by rw [gw];have h:=H;omega)];exact D))]),Z⟩
theorem lI (N:fv):gu (BG N)=gu N:=funext λi=>by unfold gu;rw [Fo];rfl
theorem Yx (N:fv):Dq (BG N)=Dq N:=funext λe=>by unfold Dq;rw [Fo,Hn];rfl
theorem Zl (N:fv) (x:Nd):EZ (BG N) (Ez x)=EZ N x:=by
 have a:bo (BG N)=bo N:=funext λe=>by unfold bo;rw [If,lI];rfl
 have b:(λe:Nat×Int=>TN ((BG N).po.getD e.1 Ce) e.2)=λe=>TN (N.po.getD e.1 Ce) e.2:=funext λe=>by rw [If];rfl
 unfold EZ;rw [a,Yx]
 grind [Ez]
theorem dW (N:fv):Oe (BG N)=Oe N:=funext λi=>by unfold Oe;rw [Fo,Zl];rfl
def Pj (po:List Po) (e:Nat×Int):List Po:=match po[e.1]? with
 | some y=>po.set e.1 {y with room:=y.room+e.2}
 | none=>po
theorem mr {e:Nat×Int} (h:o[e.1]? =some y):Pj o e=o.set e.1 {y with room:=y.room+e.2}:=by unfold Pj;rw [h]
theorem Ug:∀(l:List (Nat×Int)) (a:List Po),(l.foldl Pj a).map Cd=l.foldl Pj (a.map Cd)
 | [],_=>rfl
 | e::l,a=>by
  rw [List.foldl_cons,List.foldl_cons,Ug l]
  congr 1
  unfold Pj;rw [ν]
  cases a[e.1]? with
  | none=>rfl
  | some y=>show (a.set e.1 _).map Cd=_;rw [List.map_set];rfl
theorem Zn (l:(a.map Ac.r).Nodup) (f:Ac ->Po):∀(D:List (AT×Int)),(D.map Prod.fst).Nodup ->(WG (a.map Ac.r) D).foldl Pj (a.map f)=a.map λx=>{f x with room:=(f x).room+Gb D x.r}:=by
 intro D
 induction D using Zp with
 | h0=>
  intro _;show a.map f=_;refine gi λx _=>?_;show f x={f x with room:=(f x).room+0}
  rw [Int.add_zero]
 | h1 D d b=>
  intro g;rw [Ω,jn] at g;have j:d.1∉D.map Prod.fst:=λh=>g.2.2 _ h _ (List.mem_singleton_self _) rfl;have b:=b g.1
  by_cases c:d.1∈a.map Ac.r
  .rw [WE c,List.foldl_append,b];obtain ⟨o,k⟩:=NU c
   grind [Pj,Rs,Dv,Gt,D6]
  .rw [Ru c,b];refine gi λx i=>?_;have:Gb (D++ [d]) x.r=Gb D x.r:=D6 λe=>c (e▸Θ.2 ⟨x,i,Z⟩);rw [this]
def KW (on:Nat ->Bool):Nat ->Bool:=λi=>!on i
def tk (ds:List (List (AT×Int))) (on:Nat ->Bool) (x:Ac):Po:=⟨x.r,x.n+HO ds (KW on) x.r,HO ds (λ_=>true) x.r,none,fx ds x.r,(fx ds x.r).length⟩
def ga (ros:List Ac) (its:List AI) (on:Nat ->Bool):fv:=⟨(List.range its.length).map (SP (ros.map Ac.r) its on),ros.map (tk (its.map A0) on),none,none⟩
theorem YW (b:List (List (AT×Int))) (r:AT):HO b (KW λ_=>true) r=0:=by
 unfold HO KW
 generalize List.range b.length=l
 induction l with
 | nil=>rfl
 | cons a l c=>rw [iV,List.sum_cons,c];rfl
theorem cX (a:List Ac) (b:List AI):ga a b (λ_=>true)=gA a b λ_=>true:=by grind [ga,gA,gi,tk,rH,YW,XT]
theorem k8 {a:List (List (AT×Int))} (h:i<a.length) (f:c i=true) (r:AT):HO a (KW (BF c i)) r=HO a (KW c) r+Gb (a.getD i []) r:=by
 obtain ⟨B,b,g⟩:=JD h;unfold HO;rw [b,Ω,Ω,iV,iV,jY,jY,List.sum_cons,List.sum_cons]
 grind [KW,gi,Iz,L0]
def tH (N:fv) (i:Nat) (x:Nd):fv:={N with nd:=N.nd.set i (Ei x),po:=x.ef.foldl Pj N.po}
theorem uc (w:(a.map Ac.r).Nodup) (h:BG N=ga a f c) (g:i<f.length) (v:c i=true) (u:N.nd[i]? =some x):BG (tH N i x)=ga a f (BF c i):=by
 have l:N.nd.map Ez=(List.range f.length).map (SP (a.map Ac.r) f c):=gG fv.nd h;have k:N.po.map Cd=a.map (tk (f.map A0) c):=gG fv.po h
 have b:Ez x=SP (a.map Ac.r) f c i:=by
  have s:(N.nd.map Ez)[i]? =some (Ez x):=by rw [ν,u];rfl
  grind
 have r:x.ef=WG (a.map Ac.r) (A0 (f.getD i Af)):=gG Nd.ef b;have gX:i<(f.map A0).length:=by simpa using g
 have o:(f.map A0).getD i []=A0 (f.getD i Af):=by rw [FC [] gX,FC Af g,gq]
 unfold BG tH ga;dsimp only
 congr 1
 .rw [List.map_set,l]
  have:Ez (Ei x)=SP (a.map Ac.r) f (BF c i) i:=by
   have s:Ez (Ei x)=Ei (Ez x):=rfl;rw [s,b];unfold SP Ei BF;rw [ϱ rfl]
  rw [this];refine j0 λj=>?_;rw [jm]
  by_cases e:i=j
  .subst e;rw [ϱ Z,ϱ (by simpa using g),ν,jM g];rfl
  .rw [θ e,ν,ν]
   cases hj:(List.range f.length)[j]? with
   | none=>rfl
   | some z=>
    have t:=φ.1 hj;have:z=j:=by have:=t.2;simp at this;exact this.symm
    subst this;show some _=some _;unfold SP BF;rw [θ (λh=>e h.symm)]
 .rw [Ug,k,r,Zn w _ _ (DY _)];refine gi λz _=>?_;unfold tk;dsimp only;rw [k8 gX v,o,Int.add_assoc]
theorem vZ (a:List Ac) (b:List AI) (c:Nat ->Bool) (j:Nat):((ga a b c).po.getD j Ce).q=((gA a b c).po.getD j Ce).q:=by
 show ((a.map _).getD j Ce).q=((a.map _).getD j Ce).q;rw [Φ,Φ,ν,ν]
 cases a[j]?<;>rfl
theorem vY (h:rP a f) (b:Nat ->Bool):iO (ga a f b):=by
 have c:=vD h b
 have k:∀y∈(ga a f b).po,y.q.length<=30/\y.mi<=30/\ -1000000000000000000<=y.room/\y.room<=1000000000000000000:=λy g=>by
  obtain ⟨x,i,e⟩:=Θ.1 g;subst e;have j:=KX (f.map A0) x.r;rw [χ] at j;have o:=h.l;have s:=oQ h (KW b) x.r;have r:=h.n x i;refine ⟨by show (fx _ _).length<=_;omega,by show (fx _ _).length<=_;omega,?_,?_⟩
  .show _<=x.n+HO (f.map A0) (KW b) x.r;omega
  .show x.n+HO (f.map A0) (KW b) x.r<=_;omega
 refine ⟨c.i,c.a,c.l,c.e,λx i e l=>?_,λy g=>?_,λy g=>(k y g).2.2,?_,λy g=>?_⟩
 .rw [vZ];exact c.p x i e l
 .grind
 .have j:=c.n
  grind [ga,gA]
 grind
theorem nQ (h:BG N=ga a f c) (k:N.nd[i]? =some x):i<f.length/\x.on=c i/\x.it=f.getD i Af:=by
 have b:(N.nd.map Ez)[i]? =some (Ez x):=by rw [ν,k];rfl
 rw [show N.nd.map Ez=(List.range f.length).map (SP (a.map Ac.r) f c) from gG fv.nd h] at b;have g:i<f.length:=by have:=(φ.1 b).1;simpa using this
 rw [ν,jM g] at b;have j:Ez x=SP (a.map Ac.r) f c i:=(Option.some.inj b).symm;exact ⟨g,gG Nd.on j,gG Nd.it j⟩
theorem oU (h:BG N=ga a f c):N.nd.length=f.length:=by grind [χ,BG,ga]
theorem oV (h:BG N=ga a f c):B4 N=f.map AI.id:=by
 rw [<-Hn,h];exact Up a f c
def I0 (ros:List Ac) (its:List AI) (on:Nat ->Bool):Option Nat:=(List.range its.length).findIdx? (Oe (ga ros its on))
def Mz (ros:List Ac) (its:List AI):Nat ->(Nat ->Bool) ->List Int
 | 0,_=> []
 | f+1,on=>match I0 ros its on with
  | none=> []
  | some i=>(its.getD i Af).id::Mz ros its f (BF on i)
def DV (p:fj):List Int:=Mz (DT p) (fk p) (fk p).length λ_=>true
theorem OT (h:I0 a f c=some i):i<f.length/\c i=true/\Oe (ga a f c) i=true:=by grind [I0,List.findIdx?_eq_some_iff_getElem,Oe,ga,SP]
theorem JB {b:Nat} (h:I0 a f c=none):Mz a f b c=[]:=by
 cases b with
 | zero=>rfl
 | succ b=>unfold Mz;rw [h]
theorem JA {b:List Ac} {a:List AI} {f:Nat} {c:Nat ->Bool} {i:Nat} (h:I0 b a c=some i):Mz b a (f+1) c=(a.getD i Af).id::Mz b a f (BF c i):=by
 show (match I0 b a c with | none=>_ | some i=>_)=_;rw [h]
def QD (po:List Po) (b:Int):Prop:=∀y∈po,-b<=y.room/\y.room<=b
theorem Yf {b c:Int} (h:QD o b) (g:b<=c) {j:Nat} (f: -c<=y.room/\y.room<=c):QD (o.set j y) c:=λz a=>by
 rcases jl a with a | rfl
 .have:=h z a;omega
 .exact f
set_option maxHeartbeats 2000000 in
theorem Tu (p:fj) (hf:Fw p) (hE:Az p=0):AK prog 43 [.d (Bq p)] (.tup [.sl none ((DV p).map AF),AF 0]):=by
 have H:=U6 p hf hE;have v:=n3 hf hE;unfold DV;rw [cV,<-cX] at H
 obtain ⟨a,hits⟩:∃a,fk p=a:=⟨_,Z⟩
 obtain ⟨c,U⟩:∃c,DT p=c:=⟨_,Z⟩
 rw [hits,U] at H v⊢;have hl:=v.l;refine At func43 Z Z ntmps43 Z Z Z λF hF=>?_;refine AC (AE (V (Bo 1 Z Z Z Z Z Z Z) (AB Z Z (AB Z Z (AD (AC (AE (J (Ay Z Z Bl Z Z Z) ?_))))))));refine C6 (VA H Z [40,50,51] ⟨Z,Z,Z,trivial⟩ Z Z Z Z (λr H' ⟨_,_,_,_,_,_,_,e1,e2,_⟩=>by subst e1 e2;exact ⟨Z,Z,Z⟩) Z) Z ?_;rintro _ ⟨r,H',⟨L,O,A,pb,N,M,bs,rfl,rfl,t,u⟩,rfl⟩;refine fZ Z Z (J (Dc Z Z Z) (J (Dc Z Z Z) (V (By 920 rZ Z Z Z Z) (V (B3 Z Z Z Z Z Z Z sC) (AB Z Z (AD ?_))))));refine AC (AC (AE (fZ Z Z (J (Cw Z Z Z) (AD (Cm Z (Z) (AX (AC ?_))))))));rw [oV u];refine AE (AB Z Z (AD (AZ (NG 6 900 BP Z Z Z Z (BO (α:=(Nat ->Bool)×fv×MF×List Int×Nat) (λq=>⟨66,[(4,(.ptr 920 0 0)),(6,(.own 900 0 q.2.2.2.1.length))],(900,[.rowD 3 1 (q.2.2.2.1.map AF)])::HG L O bs (GR A (a.map AI.id)) q.2.2.1⟩) (λq=>CU L O A pb q.2.1 q.2.2.1/\BG q.2.1=ga c a q.1/\Eo a.length q.1<=q.2.2.2.2/\q.2.2.2.1.length+q.2.2.2.2<=a.length/\q.2.2.2.1++Mz c a q.2.2.2.2 q.1=Mz c a a.length λ_=>true) (λq=>q.2.2.2.2) ((λ_=>true,N,M,[],a.length)) (⟨t,u,eQ _ _,by simp,Z⟩) (AY hF [900,920,40,50,51] Z Z ⟨Z,Z,trivial⟩) ?_)))));rintro ⟨K,N,M,l,f⟩ ⟨t,u,hc,hal,w⟩;dsimp only at t u hc hal w⊢;refine AZ (AC ?_);have hw:=oP (N:=N) (by rw [u];exact vY v K);have S:=t.w;have hnr:BV M N.nh bj 1 ((List.range N.nd.length).map λi=>BX (A i)):=t.rs.1 .n;have z:=qE bs t hw;have hNl:=oU u;have hixv:Kc (Oe N) (List.range N.nd.length)=match I0 c a K with | some k=>(k:Int) | none=> -1:=by rw [<-dW,u,oU u];rfl
 rw [oV u,hixv] at z;refine AE (J (AP Z Z Z XF Z) (J (Dg Z Z) (J (C9 Z JL Z Z Z) (J (EE (f:=40) Z Z (S) Z Gp Z) (J (qw Z Z) ?_)))))
 cases hne:I0 c a K<;>rw [hne] at z
 .refine V (FE z Z [920,40,50,51] ⟨Z,Z,Z,Z,trivial⟩ Z Z Z Z Z Z Z Z Z) (AB Z Z ?_);refine AD (AC (AC (AE (fZ Z Z (J (BB Z Z Z) (AD (Bx Z (Z) (AC ?_))))))));rw [JB hne,iC] at w;refine LL (emb:=AF) 6 900 l Z Z Z Z Z Z Z (AE (fZ Z Z (AB Z Z (AB Z Z (AD (A4 ?_))))));exact ⟨_,[],[],A2 Z,Z,Z,by rw [w],Z⟩
 .refine V (FE z Z [920,40,50,51] ⟨Z,Z,Z,Z,trivial⟩ Z Z Z Z Z Z Z Z Z) (AB Z Z (AD ?_));refine AC (AC (AE (fZ Z Z (J (BB Z Z Z) (AD (Cm Z ((gV (by show ¬((_:Nat):Int)<0;omega))) (AX (AC ?_))))))))
  rename_i i
  obtain ⟨G,Y,hgr⟩:=OT hne;have g:i<N.nd.length:=by rw [hNl];exact G
  obtain ⟨x,C⟩:∃x,N.nd[i]? =some x:=⟨_,ω g⟩
  obtain ⟨_,hon,hit⟩:=nQ u C;obtain ⟨rb,rc,W⟩:=Uz hnr (j:=i) (by rw [gw];exact g);have T:=ST hnr W;have hcn:=MN G Y
  obtain ⟨f2,rfl⟩:∃f2,f=f2+1:=⟨f - 1,by omega⟩
  have hrs:=JA (f:=f2) hne;have B:=ϑ C;have hxb:=(t.nn i x C).1;have hez:=Um (t.nn i x C).2.1;have hrx:=(t.nn i x C).2.1;have hxe:=t.e x B;have h1:=t.setNd (x':=Ei x) C Z Z Z Z;have R:(N.nd.set i (Ei x))[i]? =some (Ei x):=by rw [List.getElem?_set_self g]
  have he:=hw.e x B;have hel:=(hw.l x B).1;have hrB:QD N.po 1000000000000000000:=hw.rm;refine AE (J (AP Z Z Z XF Z) (J (Dg Z Z) (J (C9 Z JL Z Z Z) (J (EE (f:=40) Z Z (S) Z Gp Z) (fZ Z Z (J (WV W (i) Z Z Z g fS MZ Z) (J (nH (f:=40) (e:=i) (off:=0) Z (by omega) Z (T) ((by rw [ν,jM g];rfl)) Z OO Z) ?_)))))));refine AB Z Z (AD (AC ?_));refine AE (fZ Z Z (J (Dg Z Z) (J (C9 Z FP Z Z Z) (V (Pk (f:=40) Z Z Z Z (hxb) ((by show _<9;omega)) Z ru) (AD (AC (AC (AE ?_))))))));refine fZ Z Z (J (Dg Z Z) (J (C9 Z Ks Z Z Z) (J (EE (f:=40) Z Z ((Fu _ _ _)) Z XC Z) (J (WU hez Z underlying181 Z) (fZ Z Z (AD (AZ (BO (α:=Nat×List Po×MF) (λq=>⟨66,[(4,(.ptr 920 0 0)),(6,(.own 900 0 l.length)),(8,(.d (pD (A i) 0))),(41,(.d (fy x.eh x.ef.length))),(42,(.d (AF (x.ef.length:Int)))),(43,(.d (AF (q.1:Int))))],(900,[.rowD 3 1 (l.map AF)])::HG L O bs (GR A (a.map AI.id)) q.2.2⟩) (λq=>q.1<=x.ef.length/\q.2.1=(x.ef.take q.1).foldl Pj N.po/\CU L O A pb {N with nd:=N.nd.set i (Ei x),po:=q.2.1} q.2.2/\QD q.2.1 (1000000000000000000+100000000000000000*(q.1:Int))/\q.2.1.length=N.po.length) (λq=>x.ef.length - q.1) ((0,N.po,BZ M (A i) (Uv (Ei x)))) (⟨ζ _,Z,h1,by show QD N.po (1000000000000000000+100000000000000000*((0:Nat):Int));simpa using hrB,Z⟩) (AY hF [900,920,40,50,51] Z Z No) ?_))))))));rintro ⟨k,po,M2⟩ ⟨hk0,E,b,hS,s⟩;dsimp only at hk0 E b hS s⊢;refine AC (AE (J (BB Z Z Z) (AD (AC (A9 Z (λI=>?_) (λI=>?_))))))
  .have o:k<x.ef.length:=BR I;refine AX (AC (AZ (AC ?_)));obtain ⟨eb,ec,hee⟩:=Uz hrx o;have D:=ST (b.nn i (Ei x) R).2.1 hee;have hjl:x.ef[k].1<po.length:=by rw [s];exact hxe.1 _ (ξ o)
   obtain ⟨y,hy⟩:∃y,po[x.ef[k].1]? =some y:=⟨_,ω hjl⟩
   have P:=b.p _ y hy;have hys:=hS y (ϑ hy);have heb:=he _ (ξ o);refine AE ?_;refine J (WV hee (k) Z Z Z o underlying181 S9 Z) (J (EI (f:=40) (e:=k) Z (Z) Z (D) (A5 o) Z bN Z) (V (By 2 aH Z Z Z Z) (V (B3 Z Z Z Z Z Z Z S9) (AD (CZ [[],[0],[0,1],[0,1,2],[0,1,2,3],[],[5],rg 7,rg 8,rg 9,rg 10] mixed Z (CG (AU [10] Z (AN Z Rp Z Z Z) (Ao [47] [2] Z Z (λ_=>Ae (AP Z Z Z FA Z)) ?_))))))));refine AU [48] Z (Dg Z Z) (AU [49] Z (C9 Z Rn Z Z Z) (Ao [50] [40] Z Z (λ_=>Ae (EE (f:=40) Z Z (P) Z GE Z)) (AU [10] Z (AN Z Ro Z Z Z) (Ao [52] [2] Z Z (λ_=>Ae (AP Z Z Z GE Z)) (CB 7 Z Z Z (Ad 8 Z Z (J (Al Z Z (Ξ _ (by omega)) Z) (AD ⟨Z,?_⟩))))))));refine Ad 9 Z Z (J (Dg Z Z) (AD ⟨Z,?_⟩));refine Ad 10 Z Z (J (C9 Z Rn Z Z Z) (AD ⟨Z,?_⟩));refine Ad 11 Z Z (V (Pk (f:=40) Z Z Z Z (P) ((by show _<10;omega)) Z uF) (AD ⟨Z,?_⟩));refine CM (AE (J (Al Z Z (AM (k+1) (by omega)) Z) (fZ Z Z (AD ?_))));exact ⟨(k+1,po.set x.ef[k].1 {y with room:=y.room+x.ef[k].2},BZ M2 (pb x.ef[k].1) (Uu {y with room:=y.room+x.ef[k].2})),⟨by show k+1<=_;omega,by show po.set _ _=_;rw [Lz o,<-E,mr hy],b.setPo hy Z Z,by show QD _ (1000000000000000000+100000000000000000*((k+1:Nat):Int));exact Yf hS (by omega) (by show _<=y.room+x.ef[k].2/\y.room+x.ef[k].2<=_;omega),by show (po.set _ _).length=_;rw [gp];exact s⟩,by show x.ef.length - (k+1)<x.ef.length - k;omega,AY hF [900,920,40,50,51] Z (Z) No⟩
  .refine Aw ?_;have X:po=x.ef.foldl Pj N.po:=by rw [E,κ (by have h:=I;omega)]
   have hR2:CU L O A pb (tH N i x) M2:=by unfold tH;rw [<-X];exact b
   have Q:=(b.nn i (Ei x) R).1;refine AE (fZ Z Z ?_);refine fZ Z Z (J (Dg Z Z) (J (C9 Z GP Z Z Z) (J (C9 Z PQ Z Z Z) (J (EE (f:=40) Z Z (Q) Z An Z) (V (C5 3 BP Z Z Z Z Z Z Z Z) (V (F2 (l) ([x.it.id]) Z Z Z Z Z Z Z Z BP (by simp only [ς];omega) Z Z Z Z) (AB Z Z (AD ?_))))))));exact ⟨(BF K i,tH N i x,M2,l++ [x.it.id],f2),⟨hR2,uc v.r u G Y C,by show Eo a.length (BF K i)<=f2;omega,by show (l++ [x.it.id]).length+f2<=_;rw [Δ];simp;omega,by show (l++ [x.it.id])++Mz c a f2 (BF K i)=_;rw [ji,<-w,hrs,hit];rfl⟩,by show f2<f2+1;omega,AY hF [900,920,40,50,51] Z (Z) ⟨Z,Z,trivial⟩⟩
def Uh (a:List UInt8):Ut:=⟨a,0,[67,65,83,72]⟩
def P8 (id:Int) (a b:List UInt8) (n:Int):AI:=⟨id,0,id,[⟨Uh a,0 - n⟩,⟨Uh b,n⟩],[],[]⟩
deriving instance DecidableEq for P1
theorem P1.eq_iff {x y:P1}:x=y↔x.id=y.id/\x.re=y.re/\x.r=y.r/\x.by_=y.by_:=by cases x;cases y;simp
def kp (a:UInt8):AT:=⟨0,Uh [a],[],[]⟩
def sk:List (List UInt8):=[[65],[66],[67]]
def RK:List Ac:=[⟨kp 65,0⟩,⟨kp 66,0⟩,⟨kp 67,0⟩]
theorem tP (a:List Ac) (b:List AI) (c:Nat ->Bool):BG (gA a b c)=gA a b c:=by
 unfold BG gA;dsimp only;rw [gZ,gZ]
 rfl
theorem Z9 (n:Nat):Eo n (λ_=>true)=n:=by
 unfold Eo;rw [List.filter_eq_self.2 λ_ _=>rfl,gw]
theorem kg (u:(f.map AI.id).Nodup):∀(b:Nat) (c:Nat ->Bool),(GA a f b c).1.length+Eo f.length (GA a f b c).2=Eo f.length c:=by
 intro b
 induction b with
 | zero=>intro c;show 0+_=_;rw [iR];rfl
 | succ b s=>
  intro c
  cases hn:Fk (gA a f c) with
  | none=>rw [Sm hn];show 0+_=_;rw [iR]
  | some e=>
   obtain ⟨i,x,t,j,o⟩:=XN hn;obtain ⟨g,h,k⟩:=SM (tP a f c) t;rw [j] at h;have l:i<(f.map AI.id).length:=by rw [χ];exact g
   have r:(f.map AI.id)[i]=e.id:=by rw [o,k,gq,FC Af g]
   rw [Sl hn,<-r,Q2 u l];have w:=s (BF c i);have v:=MN g h.symm;show (GA a f b (BF c i)).1.length+1+Eo f.length (GA a f b (BF c i)).2=Eo f.length c;omega
theorem ZM (p:fj):(fo p).length=Eo (fk p).length (Mj p).2:=by
 unfold fo Eg Eo;rw [χ]
theorem dc (a:Az g=0):(Mj g).1.length+(fo g).length=g.it.length:=by grind [fk,kg,GL,Z9,ZM,Mj,aA]
theorem K8 (a:Az g=0):fo g=((fk g).map AI.id).filter λx=>decide (x∈fo g):=RY (GL a) _
theorem ZL (b:Az g=0) {y:Int} (a:y∈fo g):y∈g.it.map AI.id:=by grind [fk,K8,Zs]
theorem I7 (a:Az g=0):(fo g).Nodup:=by
 rw [K8 a];exact (GL a).sublist iw
theorem Lt (a:Az g=0):(fo g).length<=g.it.length:=by have:=dc a;omega
structure SO (R:Int ->Int ->Prop) (l Y:List Ac):Prop where
 len:Y.length=l.length
 at_:∀(j:Nat) x y,l[j]? =some x ->Y[j]? =some y ->y.r=x.r/\ -4*Mx<=y.n/\y.n<=4*Mx/\R x.n y.n
theorem SO.set (a:SO R h Y) (f:u<Y.length) {n:Int} (g: -4*Mx<=n/\n<=4*Mx) (i:∀x,R x Y[u].n ->R x n):SO R h (Y.set u ⟨Y[u].r,n⟩):=
 ⟨by rw [gp];exact a.len,λj x y c b=>by
  rw [jm] at b
  split at b
  .rename_i e;subst e
   first | (rw [ϱ f] at b;injection b with b;subst b) | (injection b with b;subst b)
   have:=a.at_ u x _ c (ω f);exact ⟨this.1,g.1,g.2,i _ this.2.2.2⟩
  .exact a.at_ j x y c b⟩
theorem SO.map (a:SO R h Y):Y.map Ac.r=h.map Ac.r:=by
 refine i7 (by rw [χ,χ,a.len]) λj c b=>?_;rw [χ] at c b;rw [gq,gq];exact (a.at_ j _ _ (ω b) (ω c)).1
theorem SO.mem (a:SO R h Y):∀y∈Y,∃x∈h,y.r=x.r/\ -4*Mx<=y.n/\y.n<=4*Mx/\R x.n y.n:=λy f=>by
 obtain ⟨j,c,rfl⟩:=ii.1 f;have b:j<h.length:=by rw [<-a.len];exact c
 exact ⟨h[j],ξ b,a.at_ j _ _ (ω b) (ω c)⟩
theorem SO.b (a:SO R h Y) (b:u<Y.length): -4000000000000000<=Y[u].n/\Y[u].n<=4000000000000000:=by
 obtain ⟨x,_,_,f,c,_⟩:=a.mem _ (ξ b)
 grind
section
variable {P:Program} {F:Fr} {s:AS} {d:Nat} {ty:TypeId} {pos:String} {aft:Array Edge} {g:Option (Nat×Bool)} {at_:Array TypeId}
end
variable {a:fj}
def tV (p:fj):List Int:=(BK p.it).map AI.id
def uA (id:Int) (y:AI):AI:=⟨y.id,y.pr,y.sq,y.po,y.pa,W1 y.af id⟩
def Wn (id:Int) (its:List AI):List AI:=(its.filter λy=>decide (y.id≠id)).map (uA id)
def sF (p:fj) (id:Int):fj:=⟨p.ro.map λx=>⟨x.r,x.n+Bw (B2 p id) x.r⟩,Wn id p.it⟩
theorem Y9 (id:Int) (a:List AI):(Wn id a).length<=a.length:=by
 unfold Wn
 grind
structure tp (p:fj) (b:Int):Prop where
 f:Fw p
 r:(p.ro.map Ac.r).Nodup
 n:∀x∈p.ro,-b<=x.n/\x.n<=b
theorem tp.set {b:Int} (h:tp a b) (id:Int):tp (sF a id) (b+1000000000000000):=by
 refine ⟨⟨?_,?_,λx g=>?_⟩,?_,λx g=>?_⟩
 .have:=Y9 id a.it;have c:=h.f.i;show (Wn id a.it).length<=30;omega
 .show (a.ro.map _).length<=100;rw [χ];exact h.f.r
 .obtain ⟨y,f,rfl⟩:=Θ.1 g;have c:=h.f.x y (gS.1 f).1;exact ⟨c.1,c.2.1,gJ (gz _ _) c.2.2⟩
 .show ((a.ro.map _).map Ac.r).Nodup;rw [gZ];exact h.r
 .obtain ⟨y,f,rfl⟩:=Θ.1 g;have c:=h.n y f;have i:=eE (B2 a id) y.r
  grind
noncomputable def jp:Nat ->fj ->List Int
 | 0,_=> []
 | f+1,p=>match (tV p).find? λid=>decide (da p [id]) with
  | none=> []
  | some id=>id::jp f (sF p id)
structure GI (G:List Int) (p:fj) (acc:List Int) (f:Nat) (ag:Bool):Prop where
 m:tp p (34000000000000000 - 1000000000000000*(f:Int))
 l:(tV p).length<=f
 a:acc.length+f<=30
 v:(ag=true ->acc++jp f p=G)/\(ag=false ->acc=G)
def YD (its:List AI) (on:Nat ->Bool) (u:List Int):Prop:=∀j,j<its.length ->(on j=true↔(its.getD j Af).id∉u)
theorem YD.off {a:List AI} (f:(a.map AI.id).Nodup) {b:Nat ->Bool} {u:List Int} (c:YD a b u) {i:Nat} (g:i<a.length):YD a (BF b i) (u++ [(a.getD i Af).id]):=by grind [qK,YD,BF]
theorem Sn {ros:List Ac} {its:List AI}:∀(f:Nat) (a:Nat ->Bool),(Mz ros its f a).length<=f
 | 0,_=>Γ _
 | f+1,a=>by
  cases hn:I0 ros its a with
  | none=>rw [JB hn];exact ζ _
  | some i=>rw [JA hn];have:=Sn (ros:=ros) (its:=its) f (BF a i);simp;exact this
theorem kf (p:fj) (l:List Int) (j:p.it.length<=1000) (t:l.length<=100000):AK prog 35 [.d (Bq p),.d (Ga l)] (AF (KG (p.it.map AI.id) l)):=by
 refine At func35 Z Z ntmps35 Z Z Z λF r=>(AC (AE (V (Bo 1 Z Z Z Z Z Z Z) ?_)));refine AB Z Z (AD (AC (AC (AE (AB Z Z (AD (AZ (BO (α:=Nat) (λk=>⟨27,[(1,.d (Ga l)),(2,(.ptr 1 0 0)),(5,(.d (AF (k:Int))))],[(1,[.blk 25 [.d (.sl none (p.ro.map Bv)),.d (.sl none (p.it.map Ag))]])]⟩) (λk=>k<=l.length/\KG (p.it.map AI.id) l=BM (((List.range l.length).drop k).map (Ep (p.it.map AI.id) l))) (λk=>l.length - k) (0) (⟨ζ _,Z⟩) (AY r [1] Z Z Qs) ?_))))))));rintro k ⟨s,o⟩;refine AC (AC (AE (fZ Z Z (fZ Z Z (J (Ba Z ch Z) (J (BB Z Z Z) (AD (A9 Z (λi=>?_) (λi=>?_)))))))))
 .have a:k<l.length:=BR i;refine AX (AC (AZ (AC (AC ?_))));have c:=nF a o;have b:=FC 0 a;refine CZ [[],[],[],[1,2],[1,2,3],rg 5,rg 6] mixed Z (CG ?_);refine Ao [2] [1] Z Z (λ_=>Ae (Ay Z Z EM Z Z Z)) (Av 1 Z Z (Av 5 Z Z (AU [13,14] Z (BJ (k) Z Z (Z) (A5 a) ch Z BU Z) (AU [15] Z (CI Z Z An Z) (CB 5 Z Z Z (Ad 6 Z Z (J (As (Vz p l[k] (by omega)) Z Z) (AD ⟨Z,?_⟩))))))));refine Ad 7 Z Z (J (BB Z Z Z) (AD ⟨Z,?_⟩));refine CM (A9 Z (λg=>?_) (λg=>?_))
  .refine AC (AE (AB Z Z (AD (A4 ?_))));exact ⟨_,[],[],A2 Z,Z,Z,Ab (c.2 9 (by unfold Ep;rw [b,ϱ (X3 g)]) (by decide)),Z⟩
  .refine AX (AC (CZ [[],[],[0,1],[],[],[3,4],[3,4,5],rg 7] mixed Z (CG (Av 1 Z Z (Av 5 Z Z ?_)))));refine AU [19,20] Z (kC (l) (k) Z Z Z (Z) (by omega) ch BU (λ_=>rfl) Z) (Av 1 Z Z (Av 5 Z Z (AU [22,23] Z (BJ (k) Z Z (Z) (A5 a) ch Z BU Z) (AU [24] Z (CI Z Z An Z) (CB 7 Z Z Z (Ad 8 Z Z (J (As (FM (l.take k) l[k] (by rw [ϖ];omega)) Z Z) (AD ⟨Z,?_⟩))))))));refine CM (A9 Z (λf=>?_) (λf=>?_))
   .refine AC (AE (AB Z Z (AD (A4 ?_))));exact ⟨_,[],[],A2 Z,Z,Z,Ab (c.2 7 (by unfold Ep;rw [b,θ (λh=>h (Vp (by omega))),ϱ f]) (by decide)),Z⟩
   .refine AX (AE (fZ Z Z (J (Al Z Z (AM (k+1) (by omega)) Z) (AB Z Z (AD ?_)))));exact ⟨k+1,⟨by show k+1<=_;omega,c.1 (by unfold Ep;rw [b,θ (λh=>h (Vp (by omega))),θ f])⟩,by show l.length - (k+1)<l.length - k;omega,AY r [1] Z (Z) Qs⟩
 .refine Aw (AC (AE (AB Z Z (AD (A4 ?_)))));exact ⟨_,[],[],A2 Z,Z,Z,Ab (by rw [o,jt (by have h:=i;simp only [gw];omega)];rfl),Z⟩
abbrev tU (x:Int×Ac):D:= .agg [AF x.1,AF x.2.r.k,Am x.2.r.acc.o,AF x.2.r.acc.k,Am x.2.r.acc.a,Am x.2.r.f,Am x.2.r.t,AF x.2.n]
noncomputable def gg (p:fj) (id:Int):List Ac:=Ms p (BN (gY p [id]))
noncomputable def hJ (p:fj) (id:Int):Option (Int×Ac):=if id∈fo p then none else (gg p id).head?.map λx=>(id,x)
noncomputable def jc (p:fj):List (Int×Ac):=((BK p.it).map AI.id).filterMap (hJ p)
theorem Ua {id:Int} (h:id∈fo a):hJ a id=none:=ϱ h
theorem eo {id:Int} (h:¬0<(gg a id).length):hJ a id=none:=by grind [hJ]
theorem me {id:Int} (b:id∉fo a) (h:0<(gg a id).length):hJ a id=some (id,(gg a id)[0]):=by
 unfold hJ;rw [θ b,List.head?_eq_getElem?,ω h]
 rfl
theorem Re {a b:Type} {f:a ->Option b} {l:List a} {k:Nat} (c:k<l.length):(l.take (k+1)).filterMap f=(l.take k).filterMap f++(f l[k]).toList:=by grind [ψ]
theorem SE (b:Az a=0) {l:List Int} (c:l.Nodup) (g:∀x∈l,x∈a.it.map AI.id):CX a l=0:=by
 unfold CX;rw [θ (by omega)];unfold KG;refine Ul.2 λk f=>?_
 grind [Ep,KZ]
theorem m5 {S:List Int}:∀y∈gY a S,y∈a.it.map AI.id:=by grind [gY,DQ]
theorem m0 (b:Az a=0) (S:List Int):(gY a S).Nodup:=by
 unfold gY;exact (DQ _).nodup_iff.2 (List.Nodup.sublist iw (D9 (PR b).2.1))
theorem tI {l:List Ac} (h:0<l.length):(l.map Bv)[0]? =some (Bv l[0]):=A5 h
set_option maxHeartbeats 2000000 in
theorem Zh (p:fj) (u:Fw p) (i:Az p=0):AK prog 31 [.d (Bq p)] (.tup [.sl none ((jc p).map tU),AF 0]):=by
 have C:=Jk p u i;have O:=u.i;have B:=u.r;have g:=IV p u.b;rw [show fk p=BK p.it from ϱ i] at g;have P:=Lt i;have H:=aA p.it;have w:=λ{id:Int} (c:id∈p.it.map AI.id)=>mY p [id] u.b (by simp) (by omega) (by omega) (SE i (by simp) λx t=>by rw [η.1 t];exact c) (by simp) λx t=>by rw [η.1 t];exact c
 have v:∀id:Int,AK prog 28 [.d (Bq p),.d (Ga (gY p [id]))] (.tup [.sl none ((gg p id).map Bv),AF 0]):=λid=>by
  have h:=kP p (gY p [id]) u.b (by have:=eW (p:=p) (l:=[id]);omega);rw [SE i (m0 i _) m5,ϱ rfl] at h;exact h
 obtain ⟨L,z⟩:∃L,(BK p.it).map AI.id=L:=⟨_,Z⟩
 have S:L.length<=30:=by rw [<-z,χ,H];omega
 have I:∀x∈L,x∈p.it.map AI.id:=λx t=>by rw [<-z] at t;exact ((Zs p.it).map AI.id).mem_iff.1 t
 have E:jc p=L.filterMap (hJ p):=by unfold jc;rw [z]
 rw [z] at g;rw [E];refine At func31 Z Z ntmps31 Z Z Z λF A=>?_;refine AC (AE (V (Bo 1 Z Z Z Z Z Z Z) (AB Z Z (AB Z Z (AD (AC (AE (J (Ay Z Z Bl Z Z Z) ?_))))))));refine J (As (C) Z Z) (fZ Z Z (J (Dc Z Z Z) (J (Dc Z Z Z) (AB Z Z (AB Z Z (AD (AC (AC ?_))))))));refine AE (fZ Z Z (J (Cw Z Z Z) (AD (Cm Z (gV (by decide)) (AX (AC (AE (fZ Z Z ?_))))))));refine C6 (VA (Gd (fo p) (I7 i) (by omega)) Z [41] ⟨Z,trivial⟩ Z Z Z Z (λr U ⟨b,N,M,K,_⟩=>by subst M K;exact ⟨Z,Z,Z⟩) Z) Z ?_;rintro _ ⟨r,U,⟨b,N,M,K,R⟩,rfl⟩;subst M K;refine AB Z Z (AD (AC (AE (AB Z Z (AD (AC (AC ?_)))))));refine AE (J (Ay Z Z Bl Z Z Z) (J (As (g) Z Z) (J (Ba Z ch Z) (fZ Z Z (AD (AZ (NG 7 10 oo Z Z Z Z (BO (α:=Nat×List (Int×Ac)) (λq=>⟨65,[(1,(.ptr 1 0 0)),(6,(.d (PW b))),(7,(.own 10 0 q.2.length)),(25,(.d (Ga L))),(26,(.d (AF (L.length:Int)))),(27,(.d (AF (q.1:Int))))],[(1,[.blk 39 [.d (.sl none (p.ro.map Bv)),.d (.sl none (p.it.map Ag))]]),(41,[.multi N]),(10,[.rowD 66 8 (q.2.map tU)])]⟩) (λq=>q.1<=L.length/\q.2=(L.take q.1).filterMap (hJ p)/\q.2.length<=q.1) (λq=>L.length - q.1) ((0,[])) (⟨ζ _,Z,ζ _⟩) (AY A [1,41,10] Z Z No) ?_))))))));rintro ⟨k,T⟩ ⟨Q,y,G⟩;dsimp only at Q y G⊢;refine AC (AE (J (BB Z Z Z) (AD (AC (A9 Z (λs=>?_) (λs=>?_))))))
 .refine AX (AC (AZ (AC ?_)));have a:k<L.length:=BR s;have c:=I _ (ξ a);refine AE (J (BJ (k) Z Z (Z) (A5 a) ch Z BU Z) (J (CI Z Z An Z) (AB Z Z ?_)));refine AD (AC (AC (AE (fZ Z Z (fZ Z Z (V (Uy (EG R L[k]) Z [41] ⟨Z,trivial⟩ Z Z Z Z Z Z Z Z Z) (AD (A9 Z (λo=>?_) (λo=>?_)))))))))
  .refine Aw (AE (J (Al Z Z (AM (k+1) (by omega)) Z) (fZ Z Z (AD ?_))));exact ⟨(k+1,T),⟨a,by show _=(L.take (k+1)).filterMap _;rw [Re a,Ua o,y];simp,by show T.length<=k+1;omega⟩,by show L.length - (k+1)<L.length - k;omega,AY A [1,41,10] Z (Z) No⟩
  .refine AX (AC (AE (J (Ay Z Z Bl Z Z Z) (fZ Z Z (V (C5 20 BP Z Z Z Z Z Z Z Z) ?_)))));refine Ux (emb:=AF) 37 20 [L[k]] Z Z Z Z Z Z Z (V (FE (w c) Z [900] ⟨Z,trivial⟩ Z Z Z Z Z Z Z Z Z) (fZ Z Z (J (DC Z Z Z) (J (DC Z Z Z) (AB Z Z (AB Z Z (AD (AC ?_))))))));refine LL (emb:=AF) 10 900 (gY p [L[k]]) Z Z Z Z Z Z Z (AE (J (Ay Z Z Bl Z Z Z) (fZ Z Z (J (As (v L[k]) Z Z) (fZ Z Z (J (Dc Z Z Z) (J (Dc Z Z Z) (AB Z Z ?_))))))));refine AB Z Z (AD (AC (AE (fZ Z Z (J (JZ Z (χ ..) underlying69 Z) (J (HF Z Z Z) (AD (A9 Z (λj=>?_) (λj=>?_)))))))))
   .have f:0<(gg p L[k]).length:=BR j;refine CZ [[],[],[],[2],[2,3],[2,3,4],[],[6],[6,7],[6,7,8],[1,2,3,4,5,6,7,8,9],[1,2,3,4,5,6,7,8,9,10],rg 12,rg 13] mixed Z (CG (Av 7 Z Z (Av 9 Z Z (Av 12 Z Z (AU [52] Z (BJ (0) Z Z (Z) (tI f) underlying69 Z rq Z) (AU [53] Z (WX Z qR Z Z Z) (AU [54] Z (DM Z Z Cc Z) (Av 12 Z Z ?_))))))));refine AU [56] Z (BJ (0) Z Z (Z) (tI f) underlying69 Z rq Z) (AU [57] Z (Nc Z qQ Z Z Z) (AU [58] Z (CI Z Z GE Z) (AU [51,55,59] Z (FD tv uZ Z Z Z) (HC [60] [30] [(61,_)] Z Z (λ_=>HD (C5 30 oo Z Z Z Z Z Z Z Z)) (.inr ⟨61,_,Z,Z,Z,Z,Z⟩) Z Z Z Z Z (CB 12 Z Z Z (Ad 13 Z Z (V (F2 (T) ([(L[k],(gg p L[k])[0])]) Z Z Z Z Z Z Z Z oo (by simp only [ς];omega) Z Z Z Z) (AD ⟨Z,?_⟩))))))));refine Ad 14 Z Z (AB Z Z (AD ⟨Z,?_⟩));refine CM (AE (J (Al Z Z (AM (k+1) (by omega)) Z) (fZ Z Z (AD ?_))));exact ⟨(k+1,T++ [(L[k],(gg p L[k])[0])]),⟨a,by show _=(L.take (k+1)).filterMap _;rw [Re a,me o f,y];rfl,by show (T++ [_]).length<=k+1;rw [Δ];simp only [ς];omega⟩,by show L.length - (k+1)<L.length - k;omega,AY A [1,41,10] Z (Z) No⟩
   .refine AX (AE (J (Al Z Z (AM (k+1) (by omega)) Z) (fZ Z Z (AD ?_))));exact ⟨(k+1,T),⟨a,by show _=(L.take (k+1)).filterMap _;rw [Re a,eo (λh=>j (by exact_mod_cast h)),y];simp,by show T.length<=k+1;omega⟩,by show L.length - (k+1)<L.length - k;omega,AY A [1,41,10] Z (Z) No⟩
 .refine Aw (AC ?_);have D:k=L.length:=by have:=s;omega
  refine LL (emb:=tU) 7 10 T Z Z Z Z Z Z Z ?_;rw [show T=L.filterMap (hJ p) by rw [y,D,gc]];refine AE (fZ Z Z (AB Z Z (AB Z Z (AD (A4 ?_)))));exact ⟨_,[],[],A2 Z,Z,Z,Z,Z⟩
end Go.Proofs.YteifpcnphnhaoaaGreat
