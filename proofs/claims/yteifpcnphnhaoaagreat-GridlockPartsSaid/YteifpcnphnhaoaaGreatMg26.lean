import Derived.Test.YteifpcnphnhaoaaGreatMg25
open Go.Proofs.Tryz
namespace Go.Proofs.YteifpcnphnhaoaaGreat
open Go.RowKit
variable {E:List (AJ×Nat)} {a:List AW} {S:List Nat} {i k:Nat} {p:Prb} {C:Nat ->Nat ->Prop} {c:List Int} {d:List Nat} {g:Bool} {e:AW} {f:AJ} {h j:Nat ->Nat} {N:Net} {M:MF} {n m o:Nat}
set_option maxRecDepth 100000
theorem SY (d:Ay f=0) (c:e∈a) (b:Al e=0) (v:Int):(e,v)∈dR a f↔v=CC f e/\v≠0:=by grind [A4,fE,CC,dR,L5,Fc,Ir]
theorem SZ (d:Ay f=0) (c:e∈a) (b:Al e=0):e∈(dR a f).map Prod.fst↔CC f e≠0:=by simp [*,SY]
theorem fJ (d:Ay f=0) (c:e∈a) (b:Al e=0):Ad (dR a f) e 0=CC f e:=by grind [JS,SZ,Dc,fI,SY]
theorem dR_in (h:e∈(dR a f).map Prod.fst):e∈a:=by
 obtain ⟨d,c,b⟩:=Ξ.1 h;rw [<-b];exact χf (ωc.1 c).2
theorem wt_iff (b:∀r∈a,Al r=0) {x y:AJ} (e:Ay x=0) (d:Ay y=0):ai a x y↔y.id∈x.af\/∃r∈a,CC x r<0/\0<CC y r:=by
 constructor
 .grind [dR_in,SY,fJ,ai]
 .rintro (h | ⟨r,c,g,f⟩)
  .exact .inr h
  .exact .inl ⟨(r,CC x r),(SY e c (b r c) _).2 ⟨Z,by omega⟩,g,by rw [fJ d c (b r c)];exact f⟩
theorem int_iff (b:∀r∈a,Al r=0) {x y:AJ} (d:Ay x=0) (c:Ay y=0):Jf a x y↔(y.id∈x.af\/x.id∈y.af)\/∃r∈a,CC x r≠0/\CC y r≠0:=by grind [dR_in,SZ,Jf]
theorem TZ (c:BE p=0):∀r∈rsP p,Al r=0:=λr b=>by
 obtain ⟨x,a,rfl⟩:=Ξ.1 b;exact QC (Pk c).1 x a
theorem FO (l:List Int) (x:Int) (i:l.length<=140737488355328):AM prog 57 [.d (Gl l),.d (AF x)] (Am (decide (x∈l))):=by
 refine Ax func57 Z Z ntmps57 Z Z Z λF j=>(AD (AE ?_));refine AB Z Z (AC (AD (AD (AE (AB Z Z (AC (A2 (Gh (α:=Nat) (λk=>⟨18,[(0,.d (Gl l)),(1,.d (AF x)),(5,(.d (AF (k:Int))))],[]⟩) (λk=>k<=l.length/\x∉l.take k) (λk=>l.length - k) (0) (⟨ζ _,by simp⟩) (al ⟨Z,Z,Z,trivial⟩) ?_))))))));rintro k ⟨g,f⟩;refine AD (AD (AE (goMv Z Z (goMv Z Z (J (BU Z underlying28 Z) (J (Az Z Z Z) (AC (A7 Z (λc=>?_) (λc=>?_)))))))))
 .have a:k<l.length:=BR c;refine AX (AD (A2 (AD ?_)));refine AE (goMv Z Z (goMv Z Z (J (BC (k) Z Z (Z) (A3 a) underlying28 Z BD Z) (J (CF Z Z Ai Z) (goMv Z Z (J (FC Z Z Z) (AC (A7 Z (λb=>?_) (λb=>?_)))))))))
  .refine AD (AE (AB Z Z (AC (AZ ?_))));exact ⟨_,[],[],AY Z,Z,Z,by rw [ωf (by rw [<-b];exact ϑ a)],Z⟩
  .refine AX (AE (goMv Z Z (J (Ah Z Z (AK (k+1) (by omega)) Z) (AB Z Z (AC ?_)))));exact ⟨k+1,⟨by show k+1<=_;omega,Dx a f (λe=>b e.symm)⟩,by show l.length - (k+1)<l.length - k;omega,⟨Z,Z,λ_ _=>Sr.get (l:=[(0,_),(1,_),(5,_)]) ⟨Z,Z,Z,trivial⟩⟩⟩
 .refine Ar (AD (AE (AB Z Z (AC (AZ ?_)))));exact ⟨_,[],[],AY Z,Z,Z,by rw [ωh (Id (by have h:=c;omega) f)],Z⟩
def Z7 (p:Prb) (l:List Int):List Int:=((BP p.it).filter λi=>decide (i.id∈l)).map AJ.id
theorem Qk (p:Prb) (l:List Int) (f:p.it.length<=1000) (t:l.length<=1000000):AM prog 53 [.d (Bg p),.d (Gl l)] (Gl (Z7 p l)):=by
 have h:=Tb p.it f;have n:=am p.it;unfold Z7
 obtain ⟨S,s⟩:∃S,BP p.it=S:=⟨_,Z⟩
 rw [s] at h n⊢;refine Ax func53 Z Z ntmps53 Z Z Z λF o=>(AD (AE (V (Bi 1 Z Z Z Z Z Z Z) (AB Z Z (AC (AD ?_))))));refine AE (AB Z Z (AC (AD (AE (J (AL Z J6 Z Z Z) (J (AQ Z Z Z DM Z) (J (Aw (h) Z Z) (AB Z Z ?_))))))));refine AC (AD (AD (AE (AB Z Z (AC (A2 (NR 5 900 BT Z Z Z Z (BO (α:=Nat×List Int) (λq=>⟨33,[(1,.d (Gl l)),(5,(.own 900 0 q.2.length)),(6,(.d (.sl none (S.map Af)))),(7,(.d (AF (q.1:Int))))],[(900,[.rowD 3 1 (q.2.map AF)])]⟩) (λq=>q.1<=S.length/\q.2=((S.take q.1).filter λi=>decide (i.id∈l)).map AJ.id) (λq=>S.length - q.1) ((0,[])) (⟨ζ _,Z⟩) (AU o [900] Z Z ⟨Z,Z,Z,Z,trivial⟩) ?_))))))));rintro ⟨k,a⟩ ⟨m,g⟩;dsimp only at m g⊢;refine AD (AD (AE (goMv Z Z (goMv Z Z (J (BU Z underlying23 Z) (J (Az Z Z Z) (AC (A7 Z (λe=>?_) (λe=>?_)))))))))
 .have b:k<S.length:=BR e;refine AX (AD (A2 (AD ?_)));have r:a.length<=1000:=by rw [g,χ];exact ωa (ωj _ _) (by rw [ϱ];omega)
  refine AE ?_;refine goMv Z Z (goMv Z Z (goMv Z Z (J (BC (k) Z Z (Z) (A3 b) underlying23 Z DD Z) (J (NP Z Fv Z Z Z) (J (CF Z Z Ai Z) (J (Aw (FO l S[k].id (by omega)) Z Z) (AC (A7 Z (λc=>?_) (λc=>?_)))))))))
  .refine AE (goMv Z Z (goMv Z Z (goMv Z Z (J (BC (k) Z Z (Z) (A3 b) underlying23 Z DD Z) (J (NP Z Fv Z Z Z) (J (CF Z Z Ai Z) ?_))))));refine V (C1 30 BT Z Z Z Z Z Z Z Z) (V (Eu (a) ([S[k].id]) Z Z Z Z Z Z Z Z BT (by simp only [υ];omega) Z Z Z Z) (AB Z Z (AC (AE (goMv Z Z (J (Ah Z Z (AK (k+1) (by omega)) Z) (AB Z Z (AC ?_))))))));exact ⟨(k+1,a++ [S[k].id]),⟨by show k+1<=_;omega,by show _=((S.take (k+1)).filter _).map AJ.id;rw [ψ b,ωv,Ω,g];simp [c]⟩,by show S.length - (k+1)<S.length - k;omega,AU o [900] Z (Z) ⟨Z,Z,Z,Z,trivial⟩⟩
  .refine AX (AE (goMv Z Z (J (Ah Z Z (AK (k+1) (by omega)) Z) (AB Z Z (AC ?_)))));exact ⟨(k+1,a),⟨by show k+1<=_;omega,by show _=((S.take (k+1)).filter _).map AJ.id;rw [ψ b,ωv,Ω,g];simp [c]⟩,by show S.length - (k+1)<S.length - k;omega,AU o [900] Z (Z) ⟨Z,Z,Z,Z,trivial⟩⟩
 .refine Ar (AD ?_);have j:k=S.length:=by have:=e;omega
  rw [j,ωl] at g;refine KP (emb:=AF) 5 900 a Z Z Z Z Z Z Z ?_;rw [g];refine AE (goMv Z Z (AB Z Z (AC (AZ ?_))));exact ⟨_,[],[],AY Z,Z,Z,Z,Z⟩
theorem UZ (p:Prb) (id:Int) (e:p.it.length<=1000) (c:id∈p.it.map AJ.id):AM prog 108 [.d (Bg p),.d (AF id)] (Af (B8 p id)):=by
 obtain ⟨f,h,g,_⟩:=LF c;rw [g];have a:=Wc p id (by omega);rw [h] at a
 obtain ⟨k,b⟩:∃k,(p.it.map AJ.id).idxOf id=k:=⟨_,Z⟩
 simp only [b] at f a⊢;refine Ax func108 Z Z ntmps108 Z Z Z λF i=>(AD (AE (V (Bi 1 Z Z Z Z Z Z Z) (V (CA 2 Vf Z Z Z Z) (AC (AD (CD [[],[0],[],[],[2,3],rg 5,rg 6,rg 7] mixed Z (Bt ?_))))))));refine AP [2] Z (AL Z J6 Z Z Z) (Aj [5] Z Z (λ_=>A8 (AQ Z Z Z DM Z)) (Aj [2] Z Z (λ_=>A8 (BA Z Z ED Z Z Z)) (Ak 1 Z Z (AP [7,8] Z (Aw (a) Z Z) (Bk 5 Z Z Z (Ab 6 Z Z (J (BC (k) Z Z (Z) (A3 f) underlying23 Z DD Z) (AC ⟨Z,?_⟩))))))));refine Ab 7 Z Z (J (Ca Z Z G7 Z) (AC ⟨Z,?_⟩));refine Ab 8 Z Z (V (B4 Z Z Z Z Z Z Z DD) (AC ⟨Z,?_⟩));refine Bx (AZ ?_);exact ⟨_,[],[],AY Z,Z,Z,Z,Z⟩
theorem Qw {id:Int} (h:id∈p.it.map AJ.id):B8 p id∈p.it/\(B8 p id).id=id:=by
 obtain ⟨b,_,a,c⟩:=LF h
 grind
set_option maxHeartbeats 1000000 in
theorem SB (p:Prb) (N:BE p=0) (A:GH p) (a b:Int) (Q:a∈p.it.map AJ.id) (P:b∈p.it.map AJ.id):AM prog 58 [.d (Bg p),.d (AF a),.d (AF b)] (Am (decide (Jf (rsP p) (B8 p a) (B8 p b)))):=by
 obtain ⟨v,G⟩:=Qw Q;obtain ⟨u,E⟩:=Qw P;have O:=A.i;have C:=A.r;have L:=Ed (Pk N).2.1 _ v;have K:=Ed (Pk N).2.1 _ u;have c:=int_iff (TZ N) L K;rw [E,G] at c;have I:=A.x _ v;have H:=A.x _ u;have q:=UZ p a (by omega) Q;have n:=UZ p b (by omega) P;have z:=λr=>Jo (B8 p a) r (by omega) (by omega) (by omega);have w:=λr=>Jo (B8 p b) r (by omega) (by omega) (by omega)
 obtain ⟨x,S⟩:∃x,B8 p a=x:=⟨_,Z⟩
 obtain ⟨y,R⟩:∃y,B8 p b=y:=⟨_,Z⟩
 simp only [S,R] at c I H q n z w⊢;refine Ax func58 Z Z ntmps58 Z Z Z λF M=>(AD (AE ?_));refine V (Bi 1 Z Z Z Z Z Z Z) (AB Z Z (AC (AD (CD [[],[],[0,1],[],[],rg 5,[],[],rg 8,rg 9] mixed Z (Bt (As [3] [1] Z Z (λ_=>A8 (BA Z Z ED Z Z Z)) (Ak 1 Z Z (AP [11,12] Z (Aw (q) Z Z) ?_))))))));refine As [3] [1] Z Z (λ_=>A8 (BA Z Z ED Z Z Z)) (Ak 2 Z Z (AP [14,15] Z (Aw (n) Z Z) (F5 [] [7] [(7,_)] Z Z (λ_=>F6 (CA 7 Vf Z Z Z Z)) (.inr ⟨7,_,Z,Z,Z,Z,Z⟩) Z Z Z Z Z (F5 [] [8] [(8,_)] Z Z (λ_=>F6 (CA 8 Vf Z Z Z Z)) (.inr ⟨8,_,Z,Z,Z,Z,Z⟩) Z Z Z Z Z (Bk 8 Z Z Z (Ab 9 Z Z (V (B4 Z Z Z Z Z Z Z DD) (AC ⟨Z,?_⟩))))))));refine Ab 10 Z Z (V (B4 Z Z Z Z Z Z Z DD) (AC ⟨Z,?_⟩));refine Bx ?_;refine AD (AD (AE (J (AL Z QP Z Z Z) (J (AQ Z Z Z BF Z) (goMv Z Z (J (Aw (FO x.af b (by omega)) Z Z) (goMv Z Z (CX 21 Z (λm=>?_) (λm=>?_)))))))))
 .refine AI Z Z Z Z (AI Z Z Z Z (AI Z Z Z Z ?_));refine AI Z Z Z Z (J (BY Z Z Z Z) (AC (Bz Z Z (AD (AE (AB Z Z (AC (AZ ?_))))))));exact ⟨_,[],[],AY Z,Z,Z,by rw [ωf (c.2 (.inl (by first | exact .inl m | exact .inr l)))],rfl⟩
 .refine AR Z Z Z (J (AL Z QP Z Z Z) ?_);refine AR Z Z Z (J (AQ Z Z Z BF Z) (AR Z Z Z (goMv Z Z (AR Z Z Z (J (Aw (FO y.af a (by omega)) Z Z) (J (Bf Z Z Z Z) (AC (A7 Z (λl=>?_) (λl=>?_)))))))))
  .refine AD (AE (AB Z Z (AC (AZ ?_))));exact ⟨_,[],[],AY Z,Z,Z,by rw [ωf (c.2 (.inl (by first | exact .inl m | exact .inr l)))],rfl⟩
  .refine AX (AD (AD (AE (AB Z Z (AC (A2 (BO (α:=Nat) (λk=>⟨50,[(3,(.ptr 1 0 0)),(7,(.ptr 7 0 0)),(8,(.ptr 8 0 0)),(9,(.d (AF (k:Int))))],[(1,[.blk 25 [.d (.sl none (p.ro.map Bl)),.d (.sl none (p.it.map Af))]]),(7,[.blk 93 [.d (AF x.id),.d (AF x.pr),.d (AF x.sq),.d (.sl none (x.po.map BV)),.d (.sl none (x.pa.map C8)),.d (.sl none (x.af.map AF))]]),(8,[.blk 93 [.d (AF y.id),.d (AF y.pr),.d (AF y.sq),.d (.sl none (y.po.map BV)),.d (.sl none (y.pa.map C8)),.d (.sl none (y.af.map AF))]])]⟩) (λk=>k<=p.ro.length/\∀o∈p.ro.take k,¬(CC x o.r≠0/\CC y o.r≠0)) (λk=>p.ro.length - k) (0) (⟨ζ _,by simp⟩) (AU M [1,7,8] Z Z ⟨Z,Z,Z,Z,trivial⟩) ?_)))))));rintro k ⟨W,B⟩;refine AD ?_;refine AD (AE (goMv Z Z (J (AL Z Pj Z Z Z) (J (AQ Z Z Z GP Z) (J (BU Z underlying22 Z) (J (Az Z Z Z) (AC (A7 Z (λt=>?_) (λt=>?_)))))))))
   .refine AX (AD (A2 (AD ?_)));have g:k<p.ro.length:=BR t;refine AE (J (AL Z Pj Z Z Z) (J (AQ Z Z Z GP Z) (goMv Z Z (J (BC (k) Z Z (Z) (A3 g) underlying22 Z IF Z) (J (V3 Z J0 Z Z Z) (J (Ca Z Z G6 Z) (V (CA 10 St Z Z Z Z) (V (B4 Z Z Z Z Z Z Z KX) ?_))))))));refine AC (AD (AE (J (BA Z Z G7 Z Z Z) (J (BA Z Z G6 Z Z Z) (J (Aw (z p.ro[k].r) Z Z) (J (C7 Z Z Z) (goMv Z Z (CX 44 Z (λj=>?_) (λj=>?_)))))))))
    .refine AR Z Z Z (J (BA Z Z G7 Z Z Z) ?_);refine AR Z Z Z (J (BA Z Z G6 Z Z Z) (AR Z Z Z (J (Aw (w p.ro[k].r) Z Z) (AR Z Z Z (J (C7 Z Z Z) (J (BY Z Z Z Z) (AC (A7 Z (λi=>?_) (λi=>?_)))))))))
     .refine AD (AE (AB Z Z (AC (AZ ?_))));exact ⟨_,[],[],AY Z,Z,Z,by rw [ωf (c.2 (.inr ⟨_,ψz (f:=Ae.r) (ϑ g),j,i⟩))],Z⟩
     .refine AX (AE (goMv Z Z (J (Ah Z Z (AK (k+1) (by omega)) Z) (AB Z Z (AC ?_)))));exact ⟨k+1,⟨g,λo s=>by rw [ψ g] at s;exact (ϖ.1 s).elim (B o) λe=>by rw [κ.1 e];first | exact λh=>j h.1 | exact λh=>i h.2⟩,by omega,AU M [1,7,8] Z (Z) ⟨Z,Z,Z,Z,trivial⟩⟩
    .refine AI Z Z Z Z (AI Z Z Z Z (AI Z Z Z Z (AI Z Z Z Z ?_)));refine J (Bf Z Z Z Z) (AC (Cu Z Z (AX (AE (goMv Z Z (J (Ah Z Z (AK (k+1) (by omega)) Z) (AB Z Z (AC ?_))))))));exact ⟨k+1,⟨g,λo s=>by rw [ψ g] at s;exact (ϖ.1 s).elim (B o) λe=>by rw [κ.1 e];first | exact λh=>j h.1 | exact λh=>i h.2⟩,by omega,AU M [1,7,8] Z (Z) ⟨Z,Z,Z,Z,trivial⟩⟩
   .refine Ar (AD ?_);have D:k=p.ro.length:=by have:=t;omega
    rw [D,ωl] at B;refine AE (AB Z Z (AC (AZ ?_)));exact ⟨_,[],[],AY Z,Z,Z,by rw [ωh λT=>(c.1 T).elim (λh=>h.elim m l) λ⟨r,U,h⟩=>by obtain ⟨o,s,e⟩:=Ξ.1 U;rw [<-e] at h;exact B o s h],Z⟩
def D2 (p:Prb) (l:List Int):List (AJ×Nat):=((BP p.it).filter λi=>decide (i.id∈l)).map λi=>(i,0)
theorem HQ (p:Prb) (l:List Int):(D2 p l).map Prod.fst=(BP p.it).filter λi=>decide (i.id∈l):=by unfold D2;rw [ωt];exact List.map_id _
theorem Ns (k:Nat):DO E k=(E.map Prod.fst).getD k Ag:=by grind [DO]
theorem Wo {E':List (AJ×Nat)} (h:E.map Prod.fst=E'.map Prod.fst):compL a E=compL a E':=by
 have c:DO E=DO E':=funext λk=>by rw [Ns,Ns,h]
 have b:E.length=E'.length:=by rw [<-χ (f:=Prod.fst),h,χ]
 have d:nbI a E=nbI a E':=by unfold nbI;rw [c,b]
 simp [*,compL,Cn,BJ]
def So (E:List (AJ×Nat)) (k:Nat):Int:=(DO E k).id
theorem Eo (c:IdI E) (b:∀j∈S,j<E.length) (a:k<E.length):So E k∈BJ E S↔k∈S:=by grind [BJ,IdI,So]
theorem ab (E:List (AJ×Nat)) (S:List Nat):(BJ E S).length=S.length:=χ _
structure PG (rs:List AW) (E:List (AJ×Nat)) (i:Nat) (S:List Nat):Prop where
 nd:S.Nodup
 ini:i∈S
 con:∀j∈S,j<E.length/\Cn rs E i j
theorem PG.zero (c:i<E.length):PG a E i [i]:=⟨by simp,by simp,λj b=>by rw [κ.1 b];exact ⟨c,.refl i⟩⟩
theorem PG.add (h:PG a E i S) {j:Nat} (g:j∈S) (f:k<E.length) (l:k∉S) (m:Jf a (DO E j) (DO E k)):PG a E i (S++ [k]):=by
 refine ⟨χv.2 ⟨h.nd,by simp,λc o b n e=>l (by rw [κ.1 n] at e;rw [<-e];exact o)⟩,ψo _ h.ini,λx d=>?_⟩;rcases ϖ.1 d with d | d
 .exact h.con x d
 .rw [κ.1 d];exact ⟨f,(h.con j g).2.trans (Rh.one (Eb.2 ⟨(h.con j g).1,f,m⟩))⟩
theorem PG.len {i:Nat} (h:PG a E i S):S.length<=E.length:=by
 have:=h.nd.length_le_of_subset (l₂:=List.range E.length) λy b=>Ψ.2 (h.con y b).1
 grind
def ClI (rs:List AW) (E:List (AJ×Nat)) (S:List Nat) (k:Nat):Prop:=k∈S\/∀m∈S,¬Jf rs (DO E m) (DO E k)
structure PK (rs:List AW) (E:List (AJ×Nat)) (i:Nat) (S0:List Nat) (k:Nat) (S:List Nat) (g:Bool):Prop where
 pg:PG rs E i S
 no:g=false ->S=S0/\∀k',k'<k ->ClI rs E S k'
 yes:g=true ->S0.length<S.length
theorem PK.zero (h:PG a E i S):PK a E i S 0 S false:=⟨h,λ_=>⟨Z,λb c=>by omega⟩,λe=>nomatch e⟩
theorem PK.le (h:PK a E i d k S g):d.length<=S.length:=by
 cases hg:g with
 | false=>rw [(h.no hg).1];exact Γ _
 | true=>exact Nat.le_of_lt (h.yes hg)
theorem PK.pass (h:PK a E i d k S g) (f:ClI a E S k):PK a E i d (k+1) S g:=
 ⟨h.pg,λe=>⟨(h.no e).1,λb j=>(Nat.decEq b k).byCases (λc=>by rw [c];exact f) λc=>(h.no e).2 b (by omega)⟩,h.yes⟩
theorem PK.hit {b:Nat} (h:PK a E i d k S g) (c:PG a E i (S++ [k])):PK a E i d b (S++ [k]) true:=
 ⟨c,λe=>(nomatch e),λ_=>by rw [Δ,υ];exact Nat.lt_succ_of_le h.le⟩
theorem PG.fin (h:PG a E i S) (f:∀k,k<E.length ->ClI a E S k) (m:k<E.length):k∈S↔Cn a E i k:=by
 refine ⟨λe=>(h.con k e).2,λg=>?_⟩;refine Rh.clos (p:=λx=>x∈S) (λv c y b=>?_) g h.ini;obtain ⟨_,l,j⟩:=Eb.1 b;exact (f y l).resolve_right λd=>d v c j
noncomputable def clsT (n i:Nat) (C:Nat ->Nat ->Prop):List (List Nat):=((List.range i).filter λk=>dec (∀j,j<k ->¬C k j)).map λk=>(List.range n).filter λj=>dec (C k j)
theorem fS (h:∀j,j<i ->¬C i j):clsT n (i+1) C=clsT n i C++ [(List.range n).filter λj=>dec (C i j)]:=by grind [clsT,ωy,Y0]
theorem aP (h:¬∀j,j<i ->¬C i j):clsT n (i+1) C=clsT n i C:=by grind [clsT,ωy,dec_f]
theorem fR (n i:Nat) (C:Nat ->Nat ->Prop):(clsT n i C).length<=i:=by grind [clsT]
theorem Z6 (a:((BP p.it).map AJ.id).Nodup) (f:∀j∈S,j<(D2 p c).length):Z7 p (BJ (D2 p c) S)=BJ (D2 p c) ((List.range (D2 p c).length).filter λj=>decide (j∈S)):=by
 have m:IdI (D2 p c):=PI a (HQ p c);have g:=HQ p c
 obtain ⟨E,q⟩:∃E,D2 p c=E:=⟨_,Z⟩
 rw [q] at f m g⊢
 have u:((BP p.it).filter λi=>decide (i.id∈BJ E S))=(E.map Prod.fst).filter λi=>decide (i.id∈BJ E S):=by
  rw [g,List.filter_filter];refine χr λi v=>?_
  by_cases h:i.id∈BJ E S
  .have d:i.id∈c:=by
    obtain ⟨j,o,e⟩:=Ξ.1 h;have n:DO E j∈E.map Prod.fst:=by rw [Se (f j o)];exact ψz (ϑ _)
    rw [g] at n;have r:=χf (ωc.1 n).2;rw [<-e];exact r
   rw [ωf h,ωf d];rfl
  .rw [ωh h];simp
 have t:E.map Prod.fst=(List.range E.length).map (DO E):=by
  refine ψk (by simp) λk s w=>?_;have b:k<E.length:=by simpa using s
  rw [ωp,ωp,φc,Se b]
 unfold Z7 BJ;rw [show ((BP p.it).filter λi=>decide (i.id∈List.map (λk=>(DO E k).id) S))=_ from u,t,List.filter_map,ωt];refine congr (ωm _ Z) (χr λk b=>?_);exact decide_eq_decide.2 (Eo m f (Ψ.1 b))
theorem dn_step {D:List Nat} (c:∀k,k<E.length ->(k∈D↔∃j,j<i/\Cn a E j k)) (b:∀k,k<E.length ->(k∈S↔Cn a E i k)):∀k,k<E.length ->(k∈D++S↔∃j,j<i+1/\Cn a E j k):=by grind
theorem dn_skip {D:List Nat} (g:i<E.length) (c:∀k,k<E.length ->(k∈D↔∃j,j<i/\Cn a E j k)) (h:i∈D):∀k,k<E.length ->(k∈D↔∃j,j<i+1/\Cn a E j k):=λk f=>by
 rw [c k f]
 constructor
 .rintro ⟨j,n,b⟩;exact ⟨j,by omega,b⟩
 .rintro ⟨j,n,b⟩
  by_cases e:j=i
  .subst e;obtain ⟨d,m,l⟩:=(c j g).1 h;exact ⟨d,m,l.trans b⟩
  .exact ⟨j,by omega,b⟩
theorem RU {D:List Nat} (d:i<E.length) (e:∀k,k<E.length ->(k∈D↔∃j,j<i/\Cn a E j k)):i∉D↔∀j,j<i ->¬Cn a E i j:=by
 rw [e i d];exact ⟨λh j b c=>h ⟨j,b,c.symm⟩,λh ⟨j,b,c⟩=>h j b c.symm⟩
theorem YN {E:List (AJ×Nat)} {S:List Nat} {m:Nat} (a:m<S.length):((BJ E S).map AF)[m]? =some (AF (So E S[m])):=by
 unfold BJ;rw [ωt,ν,ω a]
 rfl
theorem Zy (b:BE p=0) (a:k<(D2 p c).length):So (D2 p c) k∈p.it.map AJ.id/\B8 p (So (D2 p c) k)=DO (D2 p c) k:=by grind [Se,ψz,ϑ,HQ,ah,W5,So]
theorem cu:Z7 p c=BJ (D2 p c) (List.range (D2 p c).length):=by
 unfold Z7 BJ;rw [<-HQ];refine ψk (by simp) λk b a=>?_
 grind [Se]
def hitS (S:List Nat) (k:Nat) (h:Bool):List Nat:=if h=true then S++ [k] else S
theorem PK.next {c:Bool} (h:PK a E i d k S g) (b:c=true ->PG a E i (S++ [k])) (e:c=false ->ClI a E S k):PK a E i d (k+1) (hitS S k c) (if c=true then true else g):=by
 cases c with
 | false=>exact h.pass (e Z)
 | true=>exact h.hit (b Z)
theorem hitS_r {hh:Bool} (b:∀j∈S,j<E.length) (a:k<E.length):∀j∈hitS S k hh,j<E.length:=by grind [hitS]
theorem eI (S:List Nat) (k:Nat) (a:Bool):(hitS S k a).length<=S.length+1:=by grind [hitS]
set_option maxHeartbeats 4000000 in
theorem ZY (p:Prb) (l:List Int) (hE:BE p=0) (hf:GH p) (hl:l.length<=100000):AM prog 19 [.d (Bg p),.d (Gl l)] (YA (compL (rsP p) (D2 p l))):=by
 have hi30:=hf.i;have y:((BP p.it).map AJ.id).Nodup:=by have:=GX hE;rwa [show ordP p=BP p.it from ς hE] at this
 have W:IdI (D2 p l):=PI y (HQ p l);have C:=λ{k:Nat} (R:k<(D2 p l).length)=>Zy hE R;have hel:(D2 p l).length<=30:=by have h1:(D2 p l).length<=(BP p.it).length:=(by unfold D2;rw [χ];exact ωj _ _);rw [am] at h1;omega
 have M:=Qk p l (by omega) (by omega);rw [cu] at M;have z:=λ{S:List Nat} (hS:∀j∈S,j<(D2 p l).length)=>Z6 y hS
 obtain ⟨E,hEE⟩:∃E,D2 p l=E:=⟨_,Z⟩
 simp only [hEE] at W C hel M z⊢
 obtain ⟨n,X⟩:∃n,E.length=n:=⟨_,Z⟩
 rw [X] at M hel
 have v:∀{k:Nat},k<n ->((BJ E (List.range n)).map AF)[k]? =some (AF (So E k)):=λ{k} R=>by
  have:=YN (E:=E) (S:=List.range n) (m:=k) (by simpa using R)
  simpa using this
 have hll:(BJ E (List.range n)).length=n:=by rw [ab,ωo]
 refine Ax func19 Z Z ntmps19 Z Z Z λF w=>(AD (AE ?_));refine V (Bi 1 Z Z Z Z Z Z Z) (AB Z Z (AC (AD (AE (J (BA Z Z ED Z Z Z) (goMv Z Z (J (Aw (M) Z Z) (AB Z Z ?_))))))));refine AC (AD (AE (AB Z Z (AC (AD (AE (AB Z Z (AC ?_))))))));refine AD (AD (NR 7 901 BT Z Z Z Z (AE (AB Z Z (AC (A2 (NR 6 900 OZ Z Z Z Z (BO (α:=Nat×List (List Int)×List Nat) (λq=>⟨88,[(2,(.ptr 1 0 0)),(5,(.d (Gl (BJ E (List.range n))))),(6,(.own 900 0 q.2.1.length)),(7,(.own 901 0 (BJ E q.2.2).length)),(8,(.d (AO q.1)))],[(1,[.blk 25 [.d (.sl none (p.ro.map Bl)),.d (.sl none (p.it.map Af))]]),(900,[.rowD 28 1 (q.2.1.map Gl)]),(901,[.rowD 3 1 ((BJ E q.2.2).map AF)])]⟩) (λq=>q.1<=n/\q.2.1=(clsT n q.1 (Cn (rsP p) E)).map (BJ E)/\q.2.2.length<=30*q.1/\(∀j∈q.2.2,j<E.length)/\∀k,k<E.length ->(k∈q.2.2↔∃j,j<q.1/\Cn (rsP p) E j k)) (λq=>n - q.1) ((0,[],[])) (⟨ζ _,Z,ζ _,(λj L=>nomatch L),λk R=>⟨λh=>(nomatch h),λ⟨j,L,_⟩=>by omega⟩⟩) (AU w [1,900,901] Z Z ⟨Z,Z,Z,Z,Z,trivial⟩) ?_))))))));rintro ⟨i,T,D⟩ ⟨hi,hT,hDl,G,hD⟩;dsimp only at hi hT hDl G hD⊢;refine AD (AD (AE (goMv Z Z (goMv Z Z (J (IQ Z (by rw [χ,hll]) underlying28 Z) (J (Az Z Z Z) (AC (A7 Z (λh19=>?_) (λh19=>?_)))))))))
 .refine AX (AD (A2 (AD (AD ?_))));have O:i<n:=BR h19;have u:i<E.length:=by omega
  refine AE (goMv Z Z (goMv Z Z (goMv Z Z (J (BC (i) Z Z (Z) (v O) underlying28 Z BD Z) (J (CF Z Z Ai Z) (J (EN [901] (FO (BJ E D) (So E i) (by rw [ab];omega)) (by exact ⟨.inr ⟨_,_,Z,.own Z Z (by simp) (θ (by simp)),Z⟩,.inl Z,trivial⟩) Z Z) (AC (A7 Z (λh27=>?_) (λh27=>?_)))))))))
  .have P:i∈D:=(Eo W G u).1 h27;refine Ar (AE (goMv Z Z (J (Ah Z Z (AK (i+1) (by omega)) Z) (AB Z Z (AC ?_)))));exact ⟨(i+1,T,D),⟨O,by show T=(clsT n (i+1) _).map _;rw [aP λh=>(RU u hD).2 h P];exact hT,by show D.length<=30*(i+1);omega,G,dn_skip u hD P⟩,by show n - (i+1)<n - i;omega,AU w [1,900,901] Z (Z) ⟨Z,Z,Z,Z,Z,trivial⟩⟩
  .have P:i∉D:=λh=>h27 ((Eo W G u).2 h);refine AX (AD (AE (goMv Z Z (goMv Z Z (J (BC (i) Z Z (Z) (v O) underlying28 Z BD Z) (J (CF Z Z Ai Z) (V (C1 902 BT Z Z Z Z Z Z Z Z) ?_)))))));refine AB Z Z (AC (AD (AD (AE (AB Z Z (AC (A2 (BO (α:=List Nat×Bool) (λq=>⟨88,[(2,(.ptr 1 0 0)),(5,(.d (Gl (BJ E (List.range n))))),(6,(.own 900 0 T.length)),(7,(.own 901 0 (BJ E D).length)),(8,(.d (AO i))),(9,(.own 902 0 (BJ E q.1).length)),(10,(.d (Am q.2)))],[(1,[.blk 25 [.d (.sl none (p.ro.map Bl)),.d (.sl none (p.it.map Af))]]),(900,[.rowD 28 1 (T.map Gl)]),(901,[.rowD 3 1 ((BJ E D).map AF)]),(902,[.rowD 3 1 ((BJ E q.1).map AF)])]⟩) (λq=>PG (rsP p) E i q.1/\(q.2=false ->∀k,k<E.length ->ClI (rsP p) E q.1 k)) (λq=>2*(E.length - q.1.length)+(if q.2 then 1 else 0)) (([i],true)) (⟨PG.zero u,λe=>nomatch e⟩) (AU w [1,900,901,902] Z Z ⟨Z,Z,Z,Z,Z,Z,Z,trivial⟩) ?_))))))));rintro ⟨K,gr⟩ ⟨s,hC0⟩;dsimp only at s hC0⊢;refine AD (AD (AE (goMv Z Z (AC (JC Z (λh33=>?_) (λh33=>?_))))))
   .refine AX (A2 (AD ?_));refine AE (AB Z Z (AC (AD (AE (AB Z Z (AC (A2 (BO (α:=Nat×List Nat×Bool) (λq=>⟨88,[(2,(.ptr 1 0 0)),(5,(.d (Gl (BJ E (List.range n))))),(6,(.own 900 0 T.length)),(7,(.own 901 0 (BJ E D).length)),(8,(.d (AO i))),(9,(.own 902 0 (BJ E q.2.1).length)),(10,(.d (Am q.2.2))),(11,(.d (AO q.1)))],[(1,[.blk 25 [.d (.sl none (p.ro.map Bl)),.d (.sl none (p.it.map Af))]]),(900,[.rowD 28 1 (T.map Gl)]),(901,[.rowD 3 1 ((BJ E D).map AF)]),(902,[.rowD 3 1 ((BJ E q.2.1).map AF)])]⟩) (λq=>q.1<=n/\PK (rsP p) E i K q.1 q.2.1 q.2.2) (λq=>n - q.1) ((0,K,false)) (⟨ζ _,PK.zero s⟩) (AU w [1,900,901,902] Z Z ⟨Z,Z,Z,Z,Z,Z,Z,Z,trivial⟩) ?_))))))));rintro ⟨k,S,g⟩ ⟨R,o⟩;dsimp only at R o⊢;refine AD (AD (AE (goMv Z Z (goMv Z Z (J (IQ Z (by rw [χ,hll]) underlying28 Z) (J (Az Z Z Z) (AC (A7 Z (λh37=>?_) (λh37=>?_)))))))))
    .refine AX (AD (A2 (AD (AD ?_))));have r:k<n:=BR h37;have c:k<E.length:=by omega
     have f:∀j∈S,j<E.length:=λj L=>(o.pg.con j L).1;have hSl:=o.pg.len;refine AE (goMv Z Z (goMv Z Z (goMv Z Z (J (BC (k) Z Z (Z) (v r) underlying28 Z BD Z) (J (CF Z Z Ai Z) (J (EN [902] (FO (BJ E S) (So E k) (by rw [ab];omega)) (by exact ⟨.inr ⟨_,_,Z,.own Z Z (by simp) (θ (by simp)),Z⟩,.inl Z,trivial⟩) Z Z) (AC (A7 Z (λh45=>?_) (λh45=>?_)))))))))
     .have hkS:k∈S:=(Eo W f c).1 h45;refine Ar ?_
      first | have b:=o.next a (λe=> .inr λx hx=>by subst e;obtain ⟨Q,B,rfl⟩:=ψb.1 hx;exact (A Z).2 Q (by have t:=I;rw [ab] at t;have h6:¬(m:Int)<(S.length:Int):=t;omega) B) | have b:=o.next a (λe=> .inl (by subst e;have t:So E k∈BJ E (hitS S k false):=(by simpa using H);exact (Eo W f c).1 t)) | skip
      refine AE (goMv Z Z (J (Ah Z Z (AK (k+1) (by omega)) Z) (AB Z Z (AC ?_))));exact ⟨(k+1,S,g),⟨r,o.pass (.inl hkS)⟩,by show n - (k+1)<n - k;omega,AU w [1,900,901,902] Z (Z) ⟨Z,Z,Z,Z,Z,Z,Z,Z,trivial⟩⟩
     .have hkS:k∉S:=λh=>h45 ((Eo W f c).2 h);refine AX (AD (AE (AB Z Z (AC (A2 (BO (α:=Nat×Bool) (λq=>⟨88,[(2,(.ptr 1 0 0)),(5,(.d (Gl (BJ E (List.range n))))),(6,(.own 900 0 T.length)),(7,(.own 901 0 (BJ E D).length)),(8,(.d (AO i))),(9,(.own 902 0 (BJ E (hitS S k q.2)).length)),(10,(.d (Am (if q.2=true then true else g)))),(11,(.d (AO k))),(12,(.d (AO q.1)))],[(1,[.blk 25 [.d (.sl none (p.ro.map Bl)),.d (.sl none (p.it.map Af))]]),(900,[.rowD 28 1 (T.map Gl)]),(901,[.rowD 3 1 ((BJ E D).map AF)]),(902,[.rowD 3 1 ((BJ E (hitS S k q.2)).map AF)])]⟩) (λq=>q.1<=S.length+1/\(q.2=false ->q.1<=S.length/\∀m,m<q.1 ->∀hm:m<S.length,¬Jf (rsP p) (DO E S[m]) (DO E k))/\(q.2=true ->PG (rsP p) E i (S++ [k]))) (λq=>if q.2 then 0 else S.length - q.1+1) ((0,false)) (⟨ζ _,λ_=>⟨ζ _,λm hm=>by omega⟩,λe=>nomatch e⟩) (AU w [1,900,901,902] Z Z ⟨Z,Z,Z,Z,Z,Z,Z,Z,Z,trivial⟩) ?_))))));rintro ⟨m,hh⟩ ⟨hm,A,a⟩;dsimp only at hm A a⊢;refine AD (AD ?_);have hSr2:=hitS_r (hh:=hh) f c;have hSl2:=eI S k hh;refine AE (goMv Z Z (goMv Z Z (J (Lc Z underlying28 Z) (J (Az Z Z Z) (goMv Z Z (CX 50 Z (λI=>?_) (λI=>?_)))))))
      .refine AR Z Z Z (goMv Z Z (AR Z Z Z (goMv Z Z (AR Z Z Z (goMv Z Z (AR Z Z Z (J (BC (k) Z Z (Z) (v r) underlying28 Z BD Z) ?_)))))));refine AR Z Z Z (J (CF Z Z Ai Z) (AR Z Z Z (J (EN [902] (FO (BJ E (hitS S k hh)) (So E k) (by rw [ab];omega)) (by exact ⟨.inr ⟨_,_,Z,.own Z Z (by simp) (θ (by simp)),Z⟩,.inl Z,trivial⟩) Z Z) (AR Z Z Z (J (Je Z Z) (J (BY Z Z Z Z) (AC (A7 Z (λH=>?_) (λH=>?_)))))))))
       .refine AX (AD (A2 (AD ?_)));have hn58:So E k∉BJ E (hitS S k hh):=by simpa using H
        have hhf:hh=false:=Bool.eq_false_iff.2 λe=>hn58 (by rw [e];exact Ξ.2 ⟨k,ψe _ (κ.2 Z),Z⟩);subst hhf;have Y:m<(BJ E (hitS S k false)).length:=BR I;have N:m<S.length:=by rw [ab] at Y;exact Y
        have U:=SB p hE hf (So E S[m]) (So E k) (C (f _ (ϑ N))).1 (C c).1;rw [(C (f _ (ϑ N))).2,(C c).2] at U;refine CD [[],[],[],[1,2],[1,2,3],[],[],[5,6],[5,6,7],rg 9] mixed Z (Bt (As [2] [1] Z Z (λ_=>A8 (BA Z Z ED Z Z Z)) (Ak 9 Z Z (Ak 12 Z Z (Aj [62,63] Z Z (λ_=>A8 (CM (m) Z Z (Z) (Y) Z underlying28 BD Z)) ?_)))));refine As [64] [902] Z Z (λ_=>A8 (CY Z Z (YN (S:=hitS S k false) N) Z Ai Z)) (Ak 5 Z Z (Ak 11 Z Z (AP [66,67] Z (BC (k) Z Z (Z) (v r) underlying28 Z BD Z) (AP [68] Z (CF Z Z Ai Z) (Bk 9 Z Z Z (Ab 10 Z Z (J (Aw (U) Z Z) (AC ⟨Z,?_⟩))))))));refine Bx (A7 Z (λh70=>?_) (λh70=>?_))
        .refine AD (AE ?_);refine goMv Z Z (goMv Z Z (goMv Z Z (J (BC (k) Z Z (Z) (v r) underlying28 Z BD Z) (J (CF Z Z Ai Z) (V (C1 30 BT Z Z Z Z Z Z Z Z) (V (Eu ((BJ E (hitS S k false))) ([So E k]) Z Z Z Z Z Z Z Z BT (by simp only [υ];rw [ab];omega) Z Z Z Z) (AB Z Z (AC ?_))))))));rw [show BJ E (hitS S k false)++ [So E k]=BJ E (hitS S k true) by unfold BJ hitS;rw [ς Z,η (by decide),Ω];rfl];refine AE (AB Z Z (AC (AE (goMv Z Z (J (Ah Z Z (AK (m+1) (by omega)) Z) (AB Z Z (AC ?_)))))));exact ⟨(m+1,true),⟨by show m+1<=_;omega,(λe=>nomatch e),λ_=>o.pg.add (ϑ N) c hkS h70⟩,by show (if true=true then 0 else S.length - (m+1)+1)<(if false=true then 0 else S.length - m+1);simp,AU w [1,900,901,902] Z (Z) ⟨Z,Z,Z,Z,Z,Z,Z,Z,Z,trivial⟩⟩
        .refine AX (AE (goMv Z Z (J (Ah Z Z (AK (m+1) (by omega)) Z) (AB Z Z (AC ?_)))));exact ⟨(m+1,false),⟨by show m+1<=_;omega,λ_=>⟨by show m+1<=_;omega,λQ h1 h2=>(Nat.decEq Q m).byCases (λe=>by subst e;exact h70) λe=>(A Z).2 Q (by omega) h2⟩,λe=>nomatch e⟩,by show (if false=true then 0 else S.length - (m+1)+1)<(if false=true then 0 else S.length - m+1);simp;omega,AU w [1,900,901,902] Z (Z) ⟨Z,Z,Z,Z,Z,Z,Z,Z,Z,trivial⟩⟩
       .refine Ar ?_
        first | have b:=o.next a (λe=> .inr λx hx=>by subst e;obtain ⟨Q,B,rfl⟩:=ψb.1 hx;exact (A Z).2 Q (by have t:=I;rw [ab] at t;have h6:¬(m:Int)<(S.length:Int):=t;omega) B) | have b:=o.next a (λe=> .inl (by subst e;have t:So E k∈BJ E (hitS S k false):=(by simpa using H);exact (Eo W f c).1 t)) | skip
        refine AE (goMv Z Z (J (Ah Z Z (AK (k+1) (by omega)) Z) (AB Z Z (AC ?_))));exact ⟨(k+1,hitS S k hh,(if hh=true then true else g)),⟨r,b⟩,by show n - (k+1)<n - k;omega,AU w [1,900,901,902] Z (Z) ⟨Z,Z,Z,Z,Z,Z,Z,Z,trivial⟩⟩
      .refine AI Z Z Z Z (AI Z Z Z Z ?_);refine AI Z Z Z Z (AI Z Z Z Z (AI Z Z Z Z (AI Z Z Z Z (AI Z Z Z Z (J (Bf Z Z Z Z) (AC (Cu Z Z (Ar ?_))))))))
       first | have b:=o.next a (λe=> .inr λx hx=>by subst e;obtain ⟨Q,B,rfl⟩:=ψb.1 hx;exact (A Z).2 Q (by have t:=I;rw [ab] at t;have h6:¬(m:Int)<(S.length:Int):=t;omega) B) | have b:=o.next a (λe=> .inl (by subst e;have t:So E k∈BJ E (hitS S k false):=(by simpa using H);exact (Eo W f c).1 t)) | skip
       refine AE (goMv Z Z (J (Ah Z Z (AK (k+1) (by omega)) Z) (AB Z Z (AC ?_))));exact ⟨(k+1,hitS S k hh,(if hh=true then true else g)),⟨r,b⟩,by show n - (k+1)<n - k;omega,AU w [1,900,901,902] Z (Z) ⟨Z,Z,Z,Z,Z,Z,Z,Z,trivial⟩⟩
    .refine Ar ?_;exact ⟨(S,g),⟨o.pg,λe k' hk'=>(o.no e).2 k' (by have:=h37;omega)⟩,by have h1:=o.pg.len;have h2:=o.le;show 2*(E.length - S.length)+(if g then 1 else 0)<2*(E.length - K.length)+(if gr then 1 else 0);rw [show gr=true from h33];cases hgr:g with | false=>rw [(o.no hgr).1];simp | true=>have h3:=o.yes hgr;simp;omega,AU w [1,900,901,902] Z (Z) ⟨Z,Z,Z,Z,Z,Z,Z,trivial⟩⟩
   .refine Ar (AD ?_);have hcl:=hC0 (by simpa using h33);have hSl0:=s.len;have hfl:(List.range n).filter (λj=>decide (j∈K))=(List.range n).filter λj=>dec (Cn (rsP p) E i j):=χr λj L=>Wj (s.fin hcl (by have:=Ψ.1 L;omega));have hpo:=Qk p (BJ E K) (by omega) (by rw [ab];omega);rw [z λj L=>(s.con j L).1,X,hfl] at hpo;have hTl:T.length<=30:=by rw [hT,χ];have:=fR n i (Cn (rsP p) E);omega
    refine KP (emb:=AF) 9 902 (BJ E K) Z Z Z Z Z Z Z (AE (goMv Z Z (goMv Z Z (V (QR ((BJ E D)) ((BJ E K)) Z Z Z Z Z Z (λ_=>rfl) BT (by rw [ab,ab];omega) Z Z Z Z) (AB Z Z (AC ?_))))));rw [show BJ E D++BJ E K=BJ E (D++K) by unfold BJ;rw [Ω]];refine AE (goMv Z Z (J (BA Z Z ED Z Z Z) (goMv Z Z (J (Aw (hpo) Z Z) ?_))));refine V (C1 31 OZ Z Z Z Z Z Z Z Z) (V (Eu (T) ([BJ E ((List.range n).filter λj=>dec (Cn (rsP p) E i j))]) Z Z Z Z Z Z Z Z OZ (by simp only [υ];omega) Z Z Z Z) (AB Z Z (AC (AE (goMv Z Z (J (Ah Z Z (AK (i+1) (by omega)) Z) (AB Z Z (AC ?_))))))));exact ⟨(i+1,T++ [_],D++K),⟨O,by show _=(clsT n (i+1) _).map _;rw [fS ((RU u hD).1 P),Ω,hT];rfl,by show (D++K).length<=30*(i+1);rw [Δ];omega,λj L=>(ϖ.1 L).elim (G j) λh=>(s.con j h).1,dn_step hD λk R=>s.fin hcl R⟩,by show n - (i+1)<n - i;omega,AU w [1,900,901] Z (Z) ⟨Z,Z,Z,Z,Z,trivial⟩⟩
 .refine Ar (AD ?_);have hie:i=n:=by have:=h19;omega
  refine KP (emb:=Gl) 6 900 T Z Z Z Z Z Z Z ?_;rw [show T=compL (rsP p) E by rw [hT,hie];unfold compL;rw [X];rfl];refine AE (goMv Z Z (AB Z Z (AC (AZ ?_))));exact ⟨_,[],[],AY Z,Z,Z,Z,Z⟩
theorem fL (p:Prb) (l:List Int) (f:GH p) (e:l.length<=100000) (g:C5 p l=0) (b:BE p=0) (c:l.Nodup):AM prog 23 [.d (Bg p),.d (Gl l)] (.tup [YA (compL (rsP p) (D2 p l)),AF 0]):=
 (comp_c p l f e g b c).mono λr j ⟨E,a,i,h⟩=>⟨by rw [i,Wo (E':=D2 p l) (by rw [a,HQ,show ordP p=BP p.it from ς b])],h⟩
theorem aI {rs:List AW} {E E':List (AJ×Nat)} (h:E.map Prod.fst=E'.map Prod.fst):grW rs E=grW rs E'/\BJ E=BJ E'/\E.length=E'.length:=by
 have c:DO E=DO E':=funext λk=>by rw [Ns,Ns,h]
 have b:E.length=E'.length:=by rw [<-χ (f:=Prod.fst),h,χ]
 refine ⟨?_,by funext S;unfold BJ;rw [c],b⟩;have d:∀E:List (AJ×Nat),grW rs E=(E.map Prod.fst).map λa=>toK rs E a E.length:=λE=>by unfold grW;rw [ωt];rfl
 simp [*,toK]
theorem toK_lt {b:AJ}:∀k∈toK a E b n,k<n:=λk c=>Ψ.1 (ωc.1 c).1
def sub30 (ids:List Int) (m k:Nat):List Int:=((List.range k).filter λj=>decide (m / 2^j % 2=1)).map λj=>ids.getD j 0
def InU (p:Prb) (ids:List Int) (M:Nat) (x:Int):Prop:=∃m,m<M/\eY p (sub30 ids m ids.length)/\x∈sub30 ids m ids.length
noncomputable instance (p:Prb) (ids:List Int) (M:Nat) (x:Int):Decidable (InU p ids M x):=Classical.propDecidable _
theorem Rt {a:List AJ} (c:(a.map AJ.id).Nodup) (b:Nat ->Bool):Ek a b a.length=(a.map AJ.id).filter λx=>decide (x∈Ek a b a.length):=by
 obtain ⟨l,d⟩:∃l,Ek a b a.length=l:=⟨_,Z⟩
 have e:a.map AJ.id=(List.range a.length).map λi=>(a.getD i Ag).id:=by
  conv=>lhs;rw [Zx a]
  rw [ωt];rfl
 grind [χr,on_mem,Ek]
theorem fo (a:C3 o m j h N M) {x:Nd} (c:N.nd[i]? =some x):AT prog 146 [.d (pD (j i) 0)] (HN M) λr e=>r= .d (Am x.on)/\e=HN M:=by
 have b:=a.n i x c;refine Ax func146 Z Z ntmps146 Z Z Z λF g=>(AD (AE (AB Z Z (AC ?_))));refine AD (AE (goMv Z Z (J (Dk Z Z) (J (Cg Z FR Z Z Z) (J (EG (f:=40) Z Z (b) Z on4 Z) (AB Z Z (AC (AZ ?_))))))));exact ⟨_,[40],_,AY Z,Z,Z,Z,Z⟩
theorem fj (a:C3 o m j h N M) (e:Nat×Int) {y:Po} (c:N.po[e.1]? =some y) (f: -1000000000000000000<=y.room/\y.room<=1000000000000000000) (g: -2000000000000000000<=e.2/\e.2<=2000000000000000000):AT prog 149 [.d (et h e)] (HN M) λr i=>r= .d (Am (Sm y e.2))/\i=HN M:=by
 have b:=NA a c e.2 f g;refine Ax func149 Z Z ntmps149 Z Z Z λF k=>(AD (AE (V (Bi 1 Z Z Z Z Z Z Z) (AB Z Z (AC (AD ?_))))));refine AE (J (AL Z SS Z Z Z) (J (AQ Z Z Z FD Z) (J (AL Z SQ Z Z Z) (J (AQ Z Z Z Fn Z) (V (FG b Z [40] ⟨Z,trivial⟩ Z Z Z Z Z Z Z Z Z) (AB Z Z (AC (AZ ?_))))))));exact ⟨_,[40],_,AY Z,Z,Z,Z,Z⟩
abbrev HAO (wb mv:Nat) (bs:Option (List Nat×Nat)) (L:List (Int×Value)) (M:MF):Hp:=(910,[.blk 171 [.d (pD wb 0)]])::HW mv bs L M
theorem fk (q:Option (List Nat×Nat)) (a:C3 o m j h N M) (s:(B9 N).Nodup) {id:Int} (l:id∈B9 N):AT prog 147 [.d (AF id),.ptr 910 0 0] (HAO o m q (G3 j (B9 N)) M) λr t=>r= .d (Am (!Dt N id))/\t=HAO o m q (G3 j (B9 N)) M:=by
 have i:=a.w;have b:=χi l;have c:(B9 N).idxOf id<N.nd.length:=by unfold B9 at b⊢;rw [χ] at b;exact b
 obtain ⟨z,p⟩:∃z,N.nd[(B9 N).idxOf id]? =some z:=⟨_,ω c⟩
 have n:N.nd.getD ((B9 N).idxOf id) CT=z:=by rw [Φ,p];rfl
 have g:=a.n _ z p;have e:=Sb (nb:=j) s b;rw [List.getElem_idxOf b] at e;have k:(!Dt N id)=z.on:=by unfold Dt;rw [n,Bool.not_not]
 refine Ax func147 Z Z ntmps147 Z Z Z λF u=>(AD ?_);refine AE (AB Z Z (AC (AD (AE (J (AQ Z Z Z Xj Z) (J (Dk Z Z) (J (Cg Z Nv Z Z Z) (J (EG (f:=40) Z Z (i) Z Xh Z) ?_))))))));refine Dv 7 51 0 Z Z (goMv Z Z (J (IR (G3 j (B9 N)) id (.pointer none) (pV (j ((B9 N).idxOf id)) 0) Z Z Z Xv IN XF e Z) (J (Dk Z Z) (J (Cg Z FR Z Z Z) (J (EG (f:=40) Z Z (g) Z on4 Z) (AB Z Z (AC (AZ ?_))))))));exact ⟨_,[910,40,50,51],_,AY Z,Z,Z,by rw [k],Z⟩
section
variable {P:Program} {F:Fr} {s:AS} {d:Nat} {x hi:Operand} {T E:TypeId} {ty:TypeId} {pos:String} {aft:Array Edge} {g:Option (Nat×Bool)}
theorem TM {b n a c:Nat} (h:Nat) {k:IntKind} {i:Int} (l:s.ev x=some (.d (.raw (sV b n a)))) (f:s.ev hi=some (.d (.raw (.int k i)))) (m:i=(h:Int)) (r:h<=a) (p:P.underlying T=some (.slice E)) (q:A5 P E c=true) (o:Nat.blt d s.n=true):
  AA P F ⟨some d,.slice T x none (some hi) none,ty,pos,aft,g⟩ s d (.d (.raw (sV b h a))):=
 Cz _ o λ_ t w j=>by
  have e:=j.raw l;subst m;refine ⟨.slice (if a=0 then some ⟨b,0,none⟩ else (some (⟨b,0,none⟩:Addr)).map (·.add (0*c))) (h - 0) (a - 0),by simp only [execOp,e,ψl,φa,j.raw f,Sem.run_bind,H7 p (ae q) r,Result.andThen_ok,Sem.run_pure],?_⟩
  have:Value.slice (if a=0 then some ⟨b,0,none⟩ else (some (⟨b,0,none⟩:Addr)).map (·.add (0*c))) (h - 0) (a - 0)=sV b h a:=by
   split<;>simp [Addr.add]
  rw [this];exact .d (.raw Z)
end
variable {a c:Nat ->Nat} {N:Net} {M:MF} {d e:Nat} {q:List Nat} {i:Nat} {f:Hd} {x:Nd}
def LE {α:Type} (p:α ->Bool) (l:List α):Int:=match l.findIdx? p with
 | some k=>k
 | none=> -1
theorem idx1_c {E H:Nat} {C G:Nat ->Nat} {N:Net} {M:MF} (h:C3 E H C G N M) {p:Hd} {q:List Nat} (t:B2 M p 176 1 (q.map λi=>B3 (C i))) (s:∀i∈q,i<N.nd.length) (m:Nat) (T:m<=q.length) (O:q.length<=100000):
  AT prog 97 [.d (hdr p m),.d (.raw (.func (.func 146) #[] #[]))] (HN M) λr Q=>r= .d (AF (LE (onN N) (q.take m)))/\Q=HN M:=by
 have I:p=none ->m=0:=λe=>by have:=V2 t e;omega
 have L:(q.take m).length=m:=by rw [ϱ];omega
 refine Ax func97 Z Z ntmps97 Z Z Z λF D=>(AD (AE (AB Z Z (AC ?_))));refine AD (AD (AE (goMv Z Z (J (Wz I Z underlying175 Z) (goMv Z Z (AC (A2 (BO (α:=Nat) (λk=>⟨19,[(0,.d (hdr p m)),(1,.d (.raw (.func (.func 146) #[] #[]))),(7,(.d (AF (m:Int)))),(8,(.d (AF (k:Int))))],HN M⟩) (λk=>k<=m/\∀x∈(q.take m).take k,onN N x=false) (λk=>m - k) (0) (⟨ζ _,by simp⟩) (AU D [40] Z Z ⟨Z,Z,Z,Z,trivial⟩) ?_))))))));rintro k ⟨P,v⟩;refine AD (AE (J (Az Z Z Z) (AC (AD (A7 Z (λB=>?_) (λB=>?_))))))
 .have u:k<m:=BR B;refine AX (AD (A2 (AD ?_)));have a:k<q.length:=by omega
  have o:k<(q.take m).length:=by omega
  obtain ⟨S,R,l⟩:=Vd t a;have j:=Sp t l;have w:=s _ (ϑ a)
  obtain ⟨z,c⟩:∃z,N.nd[q[k]]? =some z:=⟨_,ω w⟩
  have A:=fo h c;have n:onN N q[k]=z.on:=by unfold onN;rw [Φ,c];rfl
  refine AE (goMv Z Z (AB Z Z (AC (AD ?_))));refine AE (goMv Z Z (goMv Z Z (goMv Z Z (J (XC l (k) Z Z Z u underlying175 Mu Z) (J (ZcL (f:=40) (e:=k) (off:=0) Z (by omega) Z (j) (A3 a) Z Oj Z) (V (Vc A Z [40] ⟨Z,trivial⟩ Z Z Z Z Z Z Z Z Z) (AC (JC Z (λb=>?_) (λb=>?_)))))))))
  .refine AD (AE (goMv Z Z (AB Z Z (AC (AZ ?_)))));exact ⟨_,[40],_,AY Z,Z,Z,A0 (by unfold LE;rw [G0 o v (by rw [List.getElem_take,n];simpa using b)]),Z⟩
  .refine AX (AE (J (Ah Z Z (AK (k+1) (by omega)) Z) (goMv Z Z (AC ?_))));exact ⟨k+1,⟨by show k+1<=_;omega,by rw [ψ o];intro y g;rcases ϖ.1 g with g | g;exact v y g;rw [κ.1 g,List.getElem_take];rw [n];simpa using b⟩,by show m - (k+1)<m - k;omega,AU D [40] Z (Z) ⟨Z,Z,Z,Z,trivial⟩⟩
 .refine Ar (AD (AE (AB Z Z (AC (AZ ?_)))));exact ⟨_,[40],_,AY Z,Z,Z,A0 (by unfold LE;rw [Hr (λx K=>v x (by rw [θ (by have h:=B;omega)];exact K))]),Z⟩
theorem W4 {a:Type} {p:a ->Bool} {l:List a}:(LE p l>=0)↔l.any p=true:=by grind [LE]
theorem cont1_c (h:C3 d e a c N M) (j:B2 M f 176 1 (q.map λi=>B3 (a i))) (b:∀i∈q,i<N.nd.length) (m:Nat) (k:m<=q.length) (g:q.length<=100000):
  AT prog 145 [.d (hdr f m),.d (.raw (.func (.func 146) #[] #[]))] (HN M) λr l=>r= .d (Am ((q.take m).any (onN N)))/\l=HN M:=by
 refine Ax func145 Z Z ntmps145 Z Z Z λF n=>(AD (AE (AB Z Z (AC ?_))));refine AD (AE (goMv Z Z (goMv Z Z (V (FG (idx1_c h j b m k g) Z [40] ⟨Z,trivial⟩ Z Z Z Z Z Z Z Z Z) (J (EM Z Z Z) (AB Z Z (AC (AZ ?_))))))));exact ⟨_,[40],_,AY Z,Z,Z,O5 (by rw [φi,ψv];exact W4),Z⟩
theorem idx3_c {z C:Nat} {B A:Nat ->Nat} {N:Net} {M:MF} (h:C3 z C B A N M) (p:NetW N) {i:Nat} {x:Nd} (v:N.nd[i]? =some x):
  AT prog 197 [.d (hdr x.eh x.ef.length),.d (.raw (.func (.func 149) #[] #[]))] (HN M) λr K=>r= .d (AF (LE (λe:Nat×Int=>Sm (N.po.getD e.1 Co) e.2) x.ef))/\K=HN M:=by
 obtain ⟨E,g,_⟩:=h.nn i x v;have c:=ξ v;have H:=(p.l x c).1;have D:=V2 g;refine Ax func197 Z Z ntmps197 Z Z Z λF w=>(AD (AE (AB Z Z (AC ?_))));refine AD (AD (AE (goMv Z Z (J (Wz D Z underlying181 Z) (goMv Z Z (AC (A2 (BO (α:=Nat) (λk=>⟨19,[(0,.d (hdr x.eh x.ef.length)),(1,.d (.raw (.func (.func 149) #[] #[]))),(7,(.d (AF (x.ef.length:Int)))),(8,(.d (AF (k:Int))))],HN M⟩) (λk=>k<=x.ef.length/\∀e∈x.ef.take k,(λe:Nat×Int=>Sm (N.po.getD e.1 Co) e.2) e=false) (λk=>x.ef.length - k) (0) (⟨ζ _,by simp⟩) (AU w [40] Z Z ⟨Z,Z,Z,Z,trivial⟩) ?_))))))));rintro k ⟨G,q⟩;refine AD (AE (J (Az Z Z Z) (AC (AD (A7 Z (λu=>?_) (λu=>?_))))))
 .have a:k<x.ef.length:=BR u;refine AX (AD (A2 (AD ?_)));obtain ⟨O,L,b⟩:=Vd g a;have m:=Sp g b;have s:=(h.e x c).1 _ (ϑ a)
  obtain ⟨y,o⟩:∃y,N.po[x.ef[k].1]? =some y:=⟨_,ω s⟩
  have n:N.po.getD x.ef[k].1 Co=y:=by rw [Φ,o];rfl
  have I:=p.e x c _ (ϑ a);have t:=fj h x.ef[k] o (p.rm y (ξ o)) ⟨by omega,by omega⟩;refine AE (goMv Z Z (AB Z Z (AC (AD ?_))));refine AE (goMv Z Z (goMv Z Z (goMv Z Z (J (XC b (k) Z Z Z a underlying181 TF Z) (J (EL (f:=40) (e:=k) Z (Z) Z (m) (A3 a) Z cF Z) (V (Vc t Z [40] ⟨Z,trivial⟩ Z Z Z Z Z Z Z Z Z) (AC (A7 Z (λl=>?_) (λl=>?_)))))))))
  .refine AD (AE (goMv Z Z (AB Z Z (AC (AZ ?_)))));exact ⟨_,[40],_,AY Z,Z,Z,A0 (by unfold LE;rw [G0 a q (by show Sm (N.po.getD x.ef[k].1 Co) x.ef[k].2=true;rw [n];unfold Sm;exact ωf l)]),Z⟩
  .refine AX (AE (J (Ah Z Z (AK (k+1) (by omega)) Z) (goMv Z Z (AC ?_))));exact ⟨k+1,⟨by show k+1<=_;omega,by rw [ψ a];intro e j;rcases ϖ.1 j with j | j;exact q e j;rw [κ.1 j];show Sm (N.po.getD x.ef[k].1 Co) x.ef[k].2=false;rw [n];unfold Sm;exact ωh l⟩,by show x.ef.length - (k+1)<x.ef.length - k;omega,AU w [40] Z (Z) ⟨Z,Z,Z,Z,trivial⟩⟩
 .refine Ar (AD (AE (AB Z Z (AC (AZ ?_)))));exact ⟨_,[40],_,AY Z,Z,Z,A0 (by unfold LE;rw [Hr (λe j=>q e (by rw [θ (by have h:=u;omega)];exact j))]),Z⟩
theorem cont3_c (h:C3 d e a c N M) (g:NetW N) (f:N.nd[i]? =some x):
  AT prog 148 [.d (hdr x.eh x.ef.length),.d (.raw (.func (.func 149) #[] #[]))] (HN M) λr j=>r= .d (Am (x.ef.any λb:Nat×Int=>Sm (N.po.getD b.1 Co) b.2))/\j=HN M:=by
 refine Ax func148 Z Z ntmps148 Z Z Z λF k=>(AD (AE (AB Z Z (AC ?_))));refine AD (AE (goMv Z Z (goMv Z Z (V (FG (idx3_c h g f) Z [40] ⟨Z,trivial⟩ Z Z Z Z Z Z Z Z Z) (J (EM Z Z Z) (AB Z Z (AC (AZ ?_))))))));exact ⟨_,[40],_,AY Z,Z,Z,O5 (by rw [φi,ψv];exact W4),Z⟩
theorem idx2_c (i:Option (List Nat×Nat)) (h:C3 d e a c N M) (q:(B9 N).Nodup) (l:List Int) (w:l.length<=100000) (m:∀id∈l,id∈B9 N):
  AT prog 138 [.d (.sl none (l.map AF)),.fn 147 [.ptr 910 0 0]] (HAO d e i (G3 a (B9 N)) M) λr v=>r= .d (AF (LE (λid=>!Dt N id) l))/\v=HAO d e i (G3 a (B9 N)) M:=by
 obtain ⟨L,u⟩:∃L,G3 a (B9 N)=L:=⟨_,Z⟩
 have o:=λid t=>fk (id:=id) i h q t;rw [u] at o⊢;refine Ax func138 Z Z ntmps138 Z Z Z λF p=>(AD (AE (AB Z Z (AC ?_))));refine AD (AD (AE (goMv Z Z (J (BU Z underlying28 Z) (goMv Z Z (AC (A2 (BO (α:=Nat) (λk=>⟨19,[(0,.d (.sl none (l.map AF))),(1,.fn 147 [.ptr 910 0 0]),(7,(.d (AF (l.length:Int)))),(8,(.d (AF (k:Int))))],HAO d e i L M⟩) (λk=>k<=l.length/\∀x∈l.take k,(λid=>!Dt N id) x=false) (λk=>l.length - k) (0) (⟨ζ _,by simp⟩) (AU p [910,40,50,51] Z Z ⟨Z,Z,Z,Z,trivial⟩) ?_))))))));rintro k ⟨s,j⟩;refine AD (AE (J (Az Z Z Z) (AC (AD (A7 Z (λn=>?_) (λn=>?_))))))
 .have b:k<l.length:=BR n;refine AX (AD (A2 (AD (AE (goMv Z Z (AB Z Z (AC (AD ?_))))))));refine AE (goMv Z Z (goMv Z Z (goMv Z Z (J (BC (k) Z Z (Z) (A3 b) underlying28 Z BD Z) (J (CF Z Z Ai Z) (V (Vc (o l[k] (m _ (ϑ b))) Z [910,40,50,51] ⟨Z,Z,Z,Z,trivial⟩ Z Z Z Z Z Z Z Z Z) (AC (JC Z (λg=>?_) (λg=>?_)))))))))
  .refine AD (AE (goMv Z Z (AB Z Z (AC (AZ ?_)))));exact ⟨_,[910,40,50,51],_,AY Z,Z,Z,A0 (by unfold LE;rw [G0 b j (by simpa using g)]),Z⟩
  .refine AX (AE (J (Ah Z Z (AK (k+1) (by omega)) Z) (goMv Z Z (AC ?_))));exact ⟨k+1,⟨by show k+1<=_;omega,by rw [ψ b];intro x f;rcases ϖ.1 f with f | f;exact j x f;rw [κ.1 f];simpa using g⟩,by show l.length - (k+1)<l.length - k;omega,AU p [910,40,50,51] Z (Z) ⟨Z,Z,Z,Z,trivial⟩⟩
 .refine Ar (AD (AE (AB Z Z (AC (AZ ?_)))));exact ⟨_,[910,40,50,51],_,AY Z,Z,Z,A0 (by unfold LE;rw [Hr (λx f=>j x (by rw [θ (by have h:=n;omega)];exact f))]),Z⟩
theorem cont2_c (f:Option (List Nat×Nat)) (h:C3 d e a c N M) (g:(B9 N).Nodup) (l:List Int) (i:l.length<=100000) (b:∀id∈l,id∈B9 N):
  AT prog 130 [.d (.sl none (l.map AF)),.fn 147 [.ptr 910 0 0]] (HAO d e f (G3 a (B9 N)) M) λr j=>r= .d (Am (l.any λid=>!Dt N id))/\j=HAO d e f (G3 a (B9 N)) M:=by
 refine Ax func130 Z Z ntmps130 Z Z Z λF k=>(AD (AE (AB Z Z (AC ?_))));refine AD (AE (goMv Z Z (goMv Z Z (V (FG (idx2_c f h g l i b) Z [910,40,50,51] ⟨Z,Z,Z,Z,trivial⟩ Z Z Z Z Z Z Z Z Z) (J (EM Z Z Z) (AB Z Z (AC (AZ ?_))))))));exact ⟨_,[910,40,50,51],_,AY Z,Z,Z,O5 (by rw [φi,ψv];exact W4),Z⟩
section
variable {P:Program} {F:Fr} {s:AS} {d:Nat} {x hi:Operand} {T E:TypeId} {ty:TypeId} {pos:String} {aft:Array Edge} {g:Option (Nat×Bool)}
theorem TN {h:Hd} {b n a f:Nat} (l:h=some (b,a)) (m:Nat) {i:IntKind} {e:Int} (j:s.ev x=some (.d (hdr h n))) (c:s.ev hi=some (.d (.raw (.int i e)))) (k:e=(m:Int)) (r:m<=a) (p:P.underlying T=some (.slice E)) (q:A5 P E f=true) (o:Nat.blt d s.n=true):
  AA P F ⟨some d,.slice T x none (some hi) none,ty,pos,aft,g⟩ s d (.d (hdr h m)):=by
 subst l;exact TM m j c k r p q o
end
variable {a:List Ae} {c:Nat ->Bool} {d:List AJ} {N:Net} {R:Int ->Int ->Prop} {i:Nat} {x:Nd} {p:Prb} {Y e:List Ae} {f g:Nat ->Nat} {h:List Po} {M:MF} {j k m:Nat} {y:Po}
def cc (N:Net) (e:Nat×Nat):Bool:=((N.po.getD e.1 Co).q.take e.2).any (onN N)
def E5 (N:Net) (x:Nd):Bool:=!(x.pl.any (cc N)) &&(!(x.it.af.any λid=>!Dt N id) && !(x.ef.any λe:Nat×Int=>Sm (N.po.getD e.1 Co) e.2))
theorem al_pl (h:x.pl.any (cc N)=true):E5 N x=false:=by unfold E5;rw [h];rfl
theorem al_af (a:x.pl.any (cc N)=false) (h:(x.it.af.any λid=>!Dt N id)=true):E5 N x=false:=by unfold E5;rw [a,h];rfl
theorem al_ef (a:x.pl.any (cc N)=false) (h:(x.it.af.any λid=>!Dt N id)=false):E5 N x=!(x.ef.any λe:Nat×Int=>Sm (N.po.getD e.1 Co) e.2):=by unfold E5;rw [a,h];simp
set_option maxHeartbeats 1000000 in
theorem alone_c {G D:Nat} {s pb:Nat ->Nat} {N:Net} {M:MF} (E:Option (List Nat×Nat)) (h:C3 G D s pb N M) (t:NetW N) {i:Nat} {x:Nd} (P:N.nd[i]? =some x):
  AT prog 99 [.d (pD G 0),.d (pD (s i) 0)] (HW D E (G3 s (B9 N)) M) λr H'=>r= .d (Am (E5 N x))/\H'=HW D E (G3 s (B9 N)) M:=by
 have b:=ξ P;obtain ⟨g,hre,j⟩:=h.nn i x P;have Q:=V2 j;obtain ⟨_,hpl,W⟩:=t.l x b;have O:=h.e x b;have K:=t.p x b;have C:=cont2_c E h t.i x.it.af (by omega) (t.a x b);have T:=cont3_c h t P
 obtain ⟨L,hL⟩:∃L,G3 s (B9 N)=L:=⟨_,Z⟩
 rw [hL] at C⊢;refine Ax func99 Z Z ntmps99 Z Z Z λF X=>(AD (AE (V (Bi 910 Z Z Z Z Z Z Z) (AB Z Z (AC (AD (AD (AE ?_))))))));refine goMv Z Z (J (Dk Z Z) (J (Cg Z LS Z Z Z) (J (EG (f:=40) Z Z (g) Z Xf Z) (J (Wz Q Z underlying182 Z) (goMv Z Z (AC (A2 (BO (α:=Nat) (λk=>⟨39,[(1,.d (pD (s i) 0)),(2,(.ptr 910 0 0)),(10,(.d (hdr x.ph x.pl.length))),(11,(.d (AF (x.pl.length:Int)))),(12,(.d (AF (k:Int))))],HAO G D E L M⟩) (λk=>k<=x.pl.length/\∀e∈x.pl.take k,cc N e=false) (λk=>x.pl.length - k) (0) (⟨ζ _,by simp⟩) (AU X [910,40,50,51] Z Z ⟨Z,Z,Z,Z,Z,trivial⟩) ?_))))))));rintro k ⟨hk0,l⟩;refine AD (AE (J (Az Z Z Z) (AC (AD (A7 Z (λq=>?_) (λq=>?_))))))
 .have a:k<x.pl.length:=BR q;refine AX (AD (A2 (AD ?_)));obtain ⟨eb,ec,B⟩:=Vd j a;have v:=Sp j B;have R:x.pl[k].1<N.po.length:=O.2 _ (ϑ a)
  obtain ⟨y,I⟩:∃y,N.po[x.pl[k].1]? =some y:=⟨_,ω R⟩
  have m:N.po.getD x.pl[k].1 Co=y:=by rw [Φ,I];rfl
  have u:=ξ I;obtain ⟨H,c⟩:=h.pp _ y I;have z:=K _ (ϑ a);rw [m] at z;obtain ⟨qb,qc,w⟩:=Vd c z.1;have hqc:y.q.length<=qc:=by have U:=c;rw [w] at U;have Y:=U.1;rw [χ] at Y;exact Y
  have S:=cont1_c h c (h.q y u) x.pl[k].2 (by omega) (by have U:=t.ql y u;omega);refine AE (J (XC B (k) Z Z Z a underlying182 QX Z) ?_);refine J (EL (f:=40) (e:=k) Z (Z) Z (v) (A3 a) Z cD Z) (V (CA 911 XE Z Z Z Z) (V (B4 Z Z Z Z Z Z Z QX) (AC (AD (CD [[],[0],[0,1],[0,1,2],[0,1,2,3],[],[5],rg 7,rg 8] mixed Z (Bt (AP [6] Z (AL Z Ht Z Z Z) (As [16] [911] Z Z (λ_=>A8 (AQ Z Z Z FD Z)) ?_))))))));refine AP [17] Z (Dk Z Z) (AP [18] Z (Cg Z Hu Z Z Z) (As [19] [40] Z Z (λ_=>A8 (EG (f:=40) Z Z (H) Z HC Z)) (AP [6] Z (AL Z SO Z Z Z) (As [21] [911] Z Z (λ_=>A8 (AQ Z Z Z Ai Z)) (Bk 7 Z Z Z (Ab 8 Z Z (J (TN w x.pl[k].2 Z Z Z (by omega) underlying175 Mu Z) (AC ⟨Z,?_⟩))))))));refine Ab 9 Z Z (V (FG S Z [40] ⟨Z,trivial⟩ Z Z Z Z Z Z Z Z Z) (AC ⟨Z,?_⟩));refine Bx (JC Z (λp=>?_) (λp=>?_))
  .refine AD (AE (AB Z Z (AC (AZ ?_))));exact ⟨_,[40,50,51],_,AY Z,Z,Z,by rw [al_pl (List.any_eq_true.2 ⟨_,ϑ a,by unfold cc;rw [m];simpa using p⟩)],Z⟩
  .refine AX (AE (J (Ah Z Z (AK (k+1) (by omega)) Z) (goMv Z Z (AC ?_))));exact ⟨k+1,⟨by show k+1<=_;omega,by rw [ψ a];intro e n;rcases ϖ.1 n with n | n;exact l e n;rw [κ.1 n];unfold cc;rw [m];simpa using p⟩,by show x.pl.length - (k+1)<x.pl.length - k;omega,AU X [910,40,50,51] Z (Z) ⟨Z,Z,Z,Z,Z,trivial⟩⟩
 .refine Ar (AD (AD ?_));have A:x.pl.any (cc N)=false:=by rw [List.any_eq_false];intro e n;have e1:k=x.pl.length:=(by have h:=q;omega);rw [e1,ωl] at l;rw [l e n];simp
  refine AE ?_;refine goMv Z Z (J (Dk Z Z) (J (Cg Z G1 Z Z Z) (J (Cg Z EA Z Z Z) (J (EG (f:=40) Z Z (g) Z BF Z) (J (ZcN Z Z) (V (FG C Z [910,40,50,51] ⟨Z,Z,Z,Z,trivial⟩ Z Z Z Z Z Z Z Z Z) (AC (JC Z (λo=>?_) (λo=>?_)))))))))
  .refine AD (AE (AB Z Z (AC (AZ ?_))));exact ⟨_,[40,50,51],_,AY Z,Z,Z,by rw [al_af A (by simpa using o)],Z⟩
  .refine AX (AD (AE ?_));refine goMv Z Z (J (Dk Z Z) (J (Cg Z LT Z Z Z) (J (EG (f:=40) Z Z (g) Z Xg Z) (V (FG T Z [40] ⟨Z,trivial⟩ Z Z Z Z Z Z Z Z Z) (J (NQ Z Z) (AB Z Z (AC (AZ ?_))))))));exact ⟨_,[40,50,51],_,AY Z,Z,Z,by rw [al_ef A (by simpa using o)],Z⟩
abbrev HG (wb mv:Nat) (bs:Option (List Nat×Nat)) (L:List (Int×Value)) (M:MF):Hp:=(920,[.blk 171 [.d (pD wb 0)]])::HW mv bs L M
theorem eM {g j:Nat} {a n:Nat ->Nat} {N:Net} {M:MF} (l:Option (List Nat×Nat)) (h:C3 g j a n N M) (o:NetW N) {i:Nat} {x:Nd} (m:N.nd[i]? =some x):
  AT prog 98 [.d (pD (a i) 0),.ptr 920 0 0] (HG g j l (G3 a (B9 N)) M) λr q=>r= .d (Am (x.on && E5 N x))/\q=HG g j l (G3 a (B9 N)) M:=by
 have k:=h.n i x m;have b:=alone_c l h o m
 obtain ⟨L,p⟩:∃L,G3 a (B9 N)=L:=⟨_,Z⟩
 rw [p] at b⊢;refine Ax func98 Z Z ntmps98 Z Z Z λF s=>(AD (AE (AB Z Z ?_)));refine AC (AD (AE (goMv Z Z (J (Dk Z Z) (J (Cg Z FR Z Z Z) (J (EG (f:=40) Z Z (k) Z on4 Z) (goMv Z Z (Kn 8 Z (λc=>?_) (λc=>?_)))))))))
 .refine AR Z Z Z ?_;refine J (AQ Z Z Z Xj Z) (AR Z Z Z (goMv Z Z (AR Z Z Z (V (FG b Z [40,50,51] ⟨Z,Z,Z,trivial⟩ Z Z Z Z Z Z Z Z Z) (J (BY Z Z Z Z) (AB Z Z (AC (AZ ?_))))))));exact ⟨_,[920,40,50,51],_,AY Z,Z,Z,by rcases Bool.eq_false_or_eq_true x.on with e | e<;>rw [e] at c⊢<;>first | rfl | (simp at c),rfl⟩
 .refine AI Z Z Z Z (AI Z Z Z Z (AI Z Z Z Z (J (Bf Z Z Z Z) (AB Z Z (AC (AZ ?_))))));exact ⟨_,[920,40,50,51],_,AY Z,Z,Z,by rcases Bool.eq_false_or_eq_true x.on with e | e<;>rw [e] at c⊢<;>first | rfl | (simp at c),rfl⟩
def PP (N:Net) (i:Nat):Bool:=(N.nd.getD i CT).on && E5 N (N.nd.getD i CT)
theorem idxG_c {t u:Nat} {j H:Nat ->Nat} {N:Net} {M:MF} (v:Option (List Nat×Nat)) (h:C3 t u j H N M) (D:NetW N):
  AT prog 97 [.d (hdr N.nh N.nd.length),.fn 98 [.ptr 920 0 0]] (HG t u v (G3 j (B9 N)) M) λr Q=>r= .d (AF (LE (PP N) (List.range N.nd.length)))/\Q=HG t u v (G3 j (B9 N)) M:=by
 have b:B2 M N.nh c9 1 ((List.range N.nd.length).map λi=>B3 (j i)):=h.rs.1 .n;have I:N.nh=none ->N.nd.length=0:=λe=>by have G:=V2 b e;rw [ωo] at G;exact G
 have K:=D.n.1;have s:=λi x w=>eM (i:=i) (x:=x) v h D w
 obtain ⟨L,P⟩:∃L,G3 j (B9 N)=L:=⟨_,Z⟩
 rw [P] at s⊢;refine Ax func97 Z Z ntmps97 Z Z Z λF E=>(AD (AE (AB Z Z (AC ?_))));refine AD (AD (AE (goMv Z Z (J (Wz I Z underlying175 Z) (goMv Z Z (AC (A2 (BO (α:=Nat) (λk=>⟨19,[(0,.d (hdr N.nh N.nd.length)),(1,.fn 98 [.ptr 920 0 0]),(7,(.d (AF (N.nd.length:Int)))),(8,(.d (AF (k:Int))))],HG t u v L M⟩) (λk=>k<=N.nd.length/\∀x∈(List.range N.nd.length).take k,PP N x=false) (λk=>N.nd.length - k) (0) (⟨ζ _,by simp⟩) (AU E [920,40,50,51] Z Z ⟨Z,Z,Z,Z,trivial⟩) ?_))))))));rintro k ⟨O,A⟩;refine AD (AE (J (Az Z Z Z) (AC (AD (A7 Z (λC=>?_) (λC=>?_))))))
 .have a:k<N.nd.length:=BR C;refine AX (AD (A2 (AD ?_)));have c:k<(List.range N.nd.length).length:=by rw [ωo];exact a
  obtain ⟨S,R,p⟩:=Vd b c;have o:=Sp b p
  obtain ⟨z,l⟩:∃z,N.nd[k]? =some z:=⟨_,ω a⟩
  have B:=s k z l;have q:PP N k=(z.on && E5 N z):=by unfold PP;rw [Φ,l];rfl
  refine AE (goMv Z Z ?_);refine AB Z Z (AC (AD (AE (goMv Z Z (goMv Z Z (goMv Z Z (J (XC p (k) Z Z Z a underlying175 Mu Z) (J (ZcL (f:=40) (e:=k) (off:=0) Z (by omega) Z (o) ((by rw [ν,ψt a];rfl)) Z Oj Z) ?_))))))));refine V (Vc B Z [920,40,50,51] ⟨Z,Z,Z,Z,trivial⟩ Z Z Z Z Z Z Z Z Z) (AC (JC Z (λg=>?_) (λg=>?_)))
  .refine AD (AE (goMv Z Z (AB Z Z (AC (AZ ?_)))));exact ⟨_,[920,40,50,51],_,AY Z,Z,Z,A0 (by unfold LE;rw [G0 c A (by rw [φc,q];simpa using g)]),Z⟩
  .refine AX (AE (J (Ah Z Z (AK (k+1) (by omega)) Z) (goMv Z Z (AC ?_))));exact ⟨k+1,⟨by show k+1<=_;omega,by rw [ψ c];intro y m;rcases ϖ.1 m with m | m;exact A y m;rw [κ.1 m,φc,q];simpa using g⟩,by show N.nd.length - (k+1)<N.nd.length - k;omega,AU E [920,40,50,51] Z (Z) ⟨Z,Z,Z,Z,trivial⟩⟩
 .refine Ar (AD (AE (AB Z Z (AC (AZ ?_)))));exact ⟨_,[920,40,50,51],_,AY Z,Z,Z,A0 (by unfold LE;rw [Hr (λx w=>A x (by rw [θ (by rw [ωo];have h:=C;omega)];exact w))]),Z⟩
theorem onN_ers (N:Net):onN (BN N)=onN N:=funext λi=>by unfold onN;rw [Fx];rfl
theorem Zc (N:Net):Dt (BN N)=Dt N:=funext λe=>by unfold Dt;rw [Fx,Hw];rfl
theorem a8 (N:Net) (x:Nd):E5 (BN N) (FB x)=E5 N x:=by
 have a:cc (BN N)=cc N:=funext λe=>by unfold cc;rw [Ip,onN_ers];rfl
 have b:(λe:Nat×Int=>Sm ((BN N).po.getD e.1 Co) e.2)=λe=>Sm (N.po.getD e.1 Co) e.2:=funext λe=>by rw [Ip];rfl
 unfold E5;rw [a,Zc]
 grind [FB]
theorem eN (N:Net):PP (BN N)=PP N:=funext λi=>by unfold PP;rw [Fx,a8];rfl
def QO (po:List Po) (e:Nat×Int):List Po:=match po[e.1]? with
 | some y=>po.set e.1 {y with room:=y.room+e.2}
 | none=>po
theorem addR_at {e:Nat×Int} (a:h[e.1]? =some y):QO h e=h.set e.1 {y with room:=y.room+e.2}:=by unfold QO;rw [a]
theorem VT:∀(l:List (Nat×Int)) (a:List Po),(l.foldl QO a).map Ck=l.foldl QO (a.map Ck)
 | [],_=>rfl
 | e::l,a=>by
  rw [List.foldl_cons,List.foldl_cons,VT l]
  congr 1
  unfold QO;rw [ν]
  cases a[e.1]? with
  | none=>rfl
  | some y=>show (a.set e.1 _).map Ck=_;rw [List.map_set];rfl
theorem aa (l:(a.map Ae.r).Nodup) (f:Ae ->Po):∀(D:List (AW×Int)),(D.map Prod.fst).Nodup ->(Wg (a.map Ae.r) D).foldl QO (a.map f)=a.map λx=>{f x with room:=(f x).room+Gm D x.r}:=by
 intro D
 induction D using ac with
 | h0=>
  intro _;show a.map f=_;refine ωe λx _=>?_;show f x={f x with room:=(f x).room+0}
  rw [Int.add_zero]
 | h1 D d b=>
  intro g;rw [Ω,χv] at g;have j:d.1∉D.map Prod.fst:=λh=>g.2.2 _ h _ (List.mem_singleton_self _) rfl;have b:=b g.1
  by_cases c:d.1∈a.map Ae.r
  .rw [Wf c,List.foldl_append,b];obtain ⟨m,k⟩:=Nt c
   grind [QO,SU,Dy,HH,Db]
  .rw [SW c,b];refine ωe λx i=>?_;have:Gm (D++ [d]) x.r=Gm D x.r:=Db λe=>c (e▸Ξ.2 ⟨x,i,Z⟩);rw [this]
def Kp (on:Nat ->Bool):Nat ->Bool:=λi=>!on i
def poG (ds:List (List (AW×Int))) (on:Nat ->Bool) (x:Ae):Po:=⟨x.r,x.n+HY ds (Kp on) x.r,HY ds (λ_=>true) x.r,none,negQ ds x.r,(negQ ds x.r).length⟩
def netG (ros:List Ae) (its:List AJ) (on:Nat ->Bool):Net:=⟨(List.range its.length).map (Sn (ros.map Ae.r) its on),ros.map (poG (its.map A4) on),none,none⟩
theorem Yz (b:List (List (AW×Int))) (r:AW):HY b (Kp λ_=>true) r=0:=by
 unfold HY Kp
 generalize List.range b.length=l
 induction l with
 | nil=>rfl
 | cons a l c=>rw [ψq,List.sum_cons,c];rfl
theorem dQ (a:List Ae) (b:List AJ):netG a b (λ_=>true)=netS a b λ_=>true:=by grind [netG,netS,ωe,poG,poS,Yz,Xy]
theorem sumS_on {a:List (List (AW×Int))} (h:i<a.length) (d:c i=true) (r:AW):HY a (Kp (BM c i)) r=HY a (Kp c) r+Gm (a.getD i []) r:=by
 obtain ⟨B,b,e⟩:=JP h;unfold HY;rw [b,Ω,Ω,ψq,ψq,χt,χt,List.sum_cons,List.sum_cons]
 grind [Kp,ωe,JL,Lt]
def grN (N:Net) (i:Nat) (x:Nd):Net:={N with nd:=N.nd.set i (El x),po:=x.ef.foldl QO N.po}
theorem gr_S (r:(a.map Ae.r).Nodup) (h:BN N=netG a d c) (f:i<d.length) (q:c i=true) (p:N.nd[i]? =some x):BN (grN N i x)=netG a d (BM c i):=by
 have k:N.nd.map FB=(List.range d.length).map (Sn (a.map Ae.r) d c):=ωm Net.nd h;have g:N.po.map Ck=a.map (poG (d.map A4) c):=ωm Net.po h
 have b:FB x=Sn (a.map Ae.r) d c i:=by
  have n:(N.nd.map FB)[i]? =some (FB x):=by rw [ν,p];rfl
  grind
 have m:x.ef=Wg (a.map Ae.r) (A4 (d.getD i Ag)):=ωm Nd.ef b;have hdi:i<(d.map A4).length:=by simpa using f
 have l:(d.map A4).getD i []=A4 (d.getD i Ag):=by rw [FF [] hdi,FF Ag f,ωp]
 unfold BN grN netG;dsimp only
 congr 1
 .rw [List.map_set,k]
  have:FB (El x)=Sn (a.map Ae.r) d (BM c i) i:=by
   have n:FB (El x)=El (FB x):=rfl;rw [n,b];unfold Sn El BM;rw [ς rfl]
  rw [this];refine χn λj=>?_;rw [χw]
  by_cases e:i=j
  .subst e;rw [ς Z,ς (by simpa using f),ν,ψt f];rfl
  .rw [η e,ν,ν]
   cases hj:(List.range d.length)[j]? with
   | none=>rfl
   | some z=>
    have o:=φ.1 hj;have:z=j:=by have:=o.2;simp at this;exact this.symm
    subst this;show some _=some _;unfold Sn BM;rw [η (λh=>e h.symm)]
 .rw [VT,g,m,aa r _ _ (D3 _)];refine ωe λz _=>?_;unfold poG;dsimp only;rw [sumS_on hdi q,l,Int.add_assoc]
theorem G_q (a:List Ae) (b:List AJ) (c:Nat ->Bool) (j:Nat):((netG a b c).po.getD j Co).q=((netS a b c).po.getD j Co).q:=by
 show ((a.map _).getD j Co).q=((a.map _).getD j Co).q;rw [Φ,Φ,ν,ν]
 cases a[j]?<;>rfl
theorem G_w (h:SmO a d) (b:Nat ->Bool):NetW (netG a d b):=by
 have c:=S_w h b
 have j:∀y∈(netG a d b).po,y.q.length<=30/\y.mi<=30/\ -1000000000000000000<=y.room/\y.room<=1000000000000000000:=λy f=>by
  obtain ⟨x,g,e⟩:=Ξ.1 f;subst e;have i:=Kq (d.map A4) x.r;rw [χ] at i;have l:=h.l;have n:=S_sum h (Kp b) x.r;have m:=h.n x g;refine ⟨by show (negQ _ _).length<=_;omega,by show (negQ _ _).length<=_;omega,?_,?_⟩
  .show _<=x.n+HY (d.map A4) (Kp b) x.r;omega
  .show x.n+HY (d.map A4) (Kp b) x.r<=_;omega
 refine ⟨c.i,c.a,c.l,c.e,λx g e k=>?_,λy f=>?_,λy f=>(j y f).2.2,?_,λy f=>?_⟩
 .rw [G_q];exact c.p x g e k
 .grind
 .have i:=c.n
  grind [netG,netS]
 grind
theorem G_nd_at (h:BN N=netG a d c) (g:N.nd[i]? =some x):i<d.length/\x.on=c i/\x.it=d.getD i Ag:=by
 have b:(N.nd.map FB)[i]? =some (FB x):=by rw [ν,g];rfl
 rw [show N.nd.map FB=(List.range d.length).map (Sn (a.map Ae.r) d c) from ωm Net.nd h] at b;have e:i<d.length:=by have:=(φ.1 b).1;simpa using this
 rw [ν,ψt e] at b;have f:FB x=Sn (a.map Ae.r) d c i:=(Option.some.inj b).symm;exact ⟨e,ωm Nd.on f,ωm Nd.it f⟩
theorem G_len (h:BN N=netG a d c):N.nd.length=d.length:=by grind [χ,BN,netG]
theorem G_ids (h:BN N=netG a d c):B9 N=d.map AJ.id:=by
 rw [<-Hw,h];exact V4 a d c
def I9 (ros:List Ae) (its:List AJ) (on:Nat ->Bool):Option Nat:=(List.range its.length).findIdx? (PP (netG ros its on))
def NY (ros:List Ae) (its:List AJ):Nat ->(Nat ->Bool) ->List Int
 | 0,_=> []
 | f+1,on=>match I9 ros its on with
  | none=> []
  | some i=>(its.getD i Ag).id::NY ros its f (BM on i)
def D0 (p:Prb):List Int:=NY (DY p) (ordP p) (ordP p).length λ_=>true
theorem Oo (h:I9 a d c=some i):i<d.length/\c i=true/\PP (netG a d c) i=true:=by grind [I9,List.findIdx?_eq_some_iff_getElem,PP,netG,Sn]
theorem JN {f:Nat} (h:I9 a d c=none):NY a d f c=[]:=by
 cases f with
 | zero=>rfl
 | succ f=>unfold NY;rw [h]
theorem JM {f:Nat} (h:I9 a d c=some i):NY a d (f+1) c=(d.getD i Ag).id::NY a d f (BM c i):=by
 show (match I9 a d c with | none=>_ | some i=>_)=_;rw [h]
def Q8 (po:List Po) (b:Int):Prop:=∀y∈po,-b<=y.room/\y.room<=b
theorem ZT {b c:Int} (a:Q8 h b) (f:b<=c) {j:Nat} (e: -c<=y.room/\y.room<=c):Q8 (h.set j y) c:=λz d=>by
 rcases ψs d with d | rfl
 .have:=a z d;omega
 .exact e
set_option maxHeartbeats 2000000 in
theorem U6 (p:Prb) (hf:GH p) (hE:BE p=0):AM prog 43 [.d (Bg p)] (.tup [.sl none ((D0 p).map AF),AF 0]):=by
 have G:=VJ p hf hE;have u:=sml_P hf hE;unfold D0;rw [dO,<-dQ] at G
 obtain ⟨a,hits⟩:∃a,ordP p=a:=⟨_,Z⟩
 obtain ⟨c,T⟩:∃c,DY p=c:=⟨_,Z⟩
 rw [hits,T] at G u⊢;have hl:=u.l;refine Ax func43 Z Z ntmps43 Z Z Z λF hF=>?_;refine AD (AE (V (Bi 1 Z Z Z Z Z Z Z) (AB Z Z (AB Z Z (AC (AD (AE (J (BA Z Z Br Z Z Z) ?_))))))));refine Cd (Ve G Z [40,50,51] ⟨Z,Z,Z,trivial⟩ Z Z Z Z (λr H' ⟨_,_,_,_,_,_,_,e1,e2,_⟩=>by subst e1 e2;exact ⟨Z,Z,Z⟩) Z) Z ?_;rintro _ ⟨r,H',⟨K,L,z,pb,N,M,bs,rfl,rfl,s,t⟩,rfl⟩;refine goMv Z Z (J (Di Z Z Z) (J (Di Z Z Z) (V (CA 920 zl171 Z Z Z Z) (V (B4 Z Z Z Z Z Z Z sz171) (AB Z Z (AC ?_))))));refine AD (AD (AE (goMv Z Z (J (C7 Z Z Z) (AC (Cu Z (Z) (AX (AD ?_))))))));rw [G_ids t];refine AE (AB Z Z (AC (A2 (NR 6 900 BT Z Z Z Z (BO (α:=(Nat ->Bool)×Net×MF×List Int×Nat) (λq=>⟨66,[(4,(.ptr 920 0 0)),(6,(.own 900 0 q.2.2.2.1.length))],(900,[.rowD 3 1 (q.2.2.2.1.map AF)])::HG K L bs (G3 z (a.map AJ.id)) q.2.2.1⟩) (λq=>C3 K L z pb q.2.1 q.2.2.1/\BN q.2.1=netG c a q.1/\Es a.length q.1<=q.2.2.2.2/\q.2.2.2.1.length+q.2.2.2.2<=a.length/\q.2.2.2.1++NY c a q.2.2.2.2 q.1=NY c a a.length λ_=>true) (λq=>q.2.2.2.2) ((λ_=>true,N,M,[],a.length)) (⟨s,t,fP _ _,by simp,Z⟩) (AU hF [900,920,40,50,51] Z Z ⟨Z,Z,trivial⟩) ?_)))));rintro ⟨I,N,M,l,f⟩ ⟨s,t,hc,hal,v⟩;dsimp only at s t hc hal v⊢;refine A2 (AD ?_);have hw:=W_ers (N:=N) (by rw [t];exact G_w u I);have R:=s.w;have Y:B2 M N.nh c9 1 ((List.range N.nd.length).map λi=>B3 (z i)):=s.rs.1 .n;have w:=idxG_c bs s hw;have hNl:=G_len t;have hixv:LE (PP N) (List.range N.nd.length)=match I9 c a I with | some k=>(k:Int) | none=> -1:=by rw [<-eN,t,G_len t];rfl
 rw [G_ids t,hixv] at w;refine AE (J (AQ Z Z Z Xj Z) (J (Dk Z Z) (J (Cg Z JX Z Z Z) (J (EG (f:=40) Z Z (R) Z HC Z) (J (ZcN Z Z) ?_)))))
 cases hne:I9 c a I<;>rw [hne] at w
 .refine V (FG w Z [920,40,50,51] ⟨Z,Z,Z,Z,trivial⟩ Z Z Z Z Z Z Z Z Z) (AB Z Z ?_);refine AC (AD (AD (AE (goMv Z Z (J (Az Z Z Z) (AC (Bz Z (Z) (AD ?_))))))));rw [JN hne,ωi] at v;refine KP (emb:=AF) 6 900 l Z Z Z Z Z Z Z (AE (goMv Z Z (AB Z Z (AB Z Z (AC (AZ ?_))))));exact ⟨_,[],[],AY Z,Z,Z,by rw [v],Z⟩
 .refine V (FG w Z [920,40,50,51] ⟨Z,Z,Z,Z,trivial⟩ Z Z Z Z Z Z Z Z Z) (AB Z Z (AC ?_));refine AD (AD (AE (goMv Z Z (J (Az Z Z Z) (AC (Cu Z ((ωh (by show ¬((_:Nat):Int)<0;omega))) (AX (AD ?_))))))))
  rename_i i
  obtain ⟨E,X,hgr⟩:=Oo hne;have g:i<N.nd.length:=by rw [hNl];exact E
  obtain ⟨x,B⟩:∃x,N.nd[i]? =some x:=⟨_,ω g⟩
  obtain ⟨_,hon,hit⟩:=G_nd_at t B;obtain ⟨rb,rc,U⟩:=Vd Y (j:=i) (by rw [ωo];exact g);have S:=Sp Y U;have hcn:=Mi E X
  obtain ⟨f2,rfl⟩:∃f2,f=f2+1:=⟨f - 1,by omega⟩
  have hrs:=JM (f:=f2) hne;have A:=ξ B;have hxb:=(s.nn i x B).1;have hez:=V2 (s.nn i x B).2.1;have hrx:=(s.nn i x B).2.1;have hxe:=s.e x A;have h1:=s.setNd (x':=El x) B Z Z Z Z;have Q:(N.nd.set i (El x))[i]? =some (El x):=by rw [List.getElem?_set_self g]
  have he:=hw.e x A;have hel:=(hw.l x A).1;have hrB:Q8 N.po 1000000000000000000:=hw.rm;refine AE (J (AQ Z Z Z Xj Z) (J (Dk Z Z) (J (Cg Z JX Z Z Z) (J (EG (f:=40) Z Z (R) Z HC Z) (goMv Z Z (J (XC U (i) Z Z Z g underlying175 Mu Z) (J (ZcL (f:=40) (e:=i) (off:=0) Z (by omega) Z (S) ((by rw [ν,ψt g];rfl)) Z Oj Z) ?_)))))));refine AB Z Z (AC (AD ?_));refine AE (goMv Z Z (J (Dk Z Z) (J (Cg Z FR Z Z Z) (V (QT (f:=40) Z Z Z Z (hxb) ((by show _<9;omega)) Z sz4) (AC (AD (AD (AE ?_))))))));refine goMv Z Z (J (Dk Z Z) (J (Cg Z LT Z Z Z) (J (EG (f:=40) Z Z ((GF _ _ _)) Z Xg Z) (J (Wz hez Z underlying181 Z) (goMv Z Z (AC (A2 (BO (α:=Nat×List Po×MF) (λq=>⟨66,[(4,(.ptr 920 0 0)),(6,(.own 900 0 l.length)),(8,(.d (pD (z i) 0))),(41,(.d (hdr x.eh x.ef.length))),(42,(.d (AF (x.ef.length:Int)))),(43,(.d (AF (q.1:Int))))],(900,[.rowD 3 1 (l.map AF)])::HG K L bs (G3 z (a.map AJ.id)) q.2.2⟩) (λq=>q.1<=x.ef.length/\q.2.1=(x.ef.take q.1).foldl QO N.po/\C3 K L z pb {N with nd:=N.nd.set i (El x),po:=q.2.1} q.2.2/\Q8 q.2.1 (1000000000000000000+100000000000000000*(q.1:Int))/\q.2.1.length=N.po.length) (λq=>x.ef.length - q.1) ((0,N.po,B6 M (z i) (V8 (El x)))) (⟨ζ _,Z,h1,by show Q8 N.po (1000000000000000000+100000000000000000*((0:Nat):Int));simpa using hrB,Z⟩) (AU hF [900,920,40,50,51] Z Z ⟨Z,Z,Z,Z,Z,Z,trivial⟩) ?_))))))));rintro ⟨k,po,M2⟩ ⟨hk0,D,b,hS,o⟩;dsimp only at hk0 D b hS o⊢;refine AD (AE (J (Az Z Z Z) (AC (AD (A7 Z (λH=>?_) (λH=>?_))))))
  .have m:k<x.ef.length:=BR H;refine AX (AD (A2 (AD ?_)));obtain ⟨eb,ec,hee⟩:=Vd hrx m;have C:=Sp (b.nn i (El x) Q).2.1 hee;have hjl:x.ef[k].1<po.length:=by rw [o];exact hxe.1 _ (ϑ m)
   obtain ⟨y,hy⟩:∃y,po[x.ef[k].1]? =some y:=⟨_,ω hjl⟩
   have O:=b.p _ y hy;have hys:=hS y (ξ hy);have heb:=he _ (ϑ m);refine AE ?_;refine J (XC hee (k) Z Z Z m underlying181 TF Z) (J (EL (f:=40) (e:=k) Z (Z) Z (C) (A3 m) Z cF Z) (V (CA 2 az Z Z Z Z) (V (B4 Z Z Z Z Z Z Z TF) (AC (CD [[],[0],[0,1],[0,1,2],[0,1,2,3],[],[5],rg 7,rg 8,rg 9,rg 10] mixed Z (Bt (AP [10] Z (AL Z SS Z Z Z) (As [47] [2] Z Z (λ_=>A8 (AQ Z Z Z FD Z)) ?_))))))));refine AP [48] Z (Dk Z Z) (AP [49] Z (Cg Z SP Z Z Z) (As [50] [40] Z Z (λ_=>A8 (EG (f:=40) Z Z (O) Z Fn Z)) (AP [10] Z (AL Z SQ Z Z Z) (As [52] [2] Z Z (λ_=>A8 (AQ Z Z Z Fn Z)) (Bk 7 Z Z Z (Ab 8 Z Z (J (Ah Z Z (Θ _ (by omega)) Z) (AC ⟨Z,?_⟩))))))));refine Ab 9 Z Z (J (Dk Z Z) (AC ⟨Z,?_⟩));refine Ab 10 Z Z (J (Cg Z SP Z Z Z) (AC ⟨Z,?_⟩));refine Ab 11 Z Z (V (QT (f:=40) Z Z Z Z (O) ((by show _<10;omega)) Z sz2) (AC ⟨Z,?_⟩));refine Bx (AE (J (Ah Z Z (AK (k+1) (by omega)) Z) (goMv Z Z (AC ?_))));exact ⟨(k+1,po.set x.ef[k].1 {y with room:=y.room+x.ef[k].2},B6 M2 (pb x.ef[k].1) (V7 {y with room:=y.room+x.ef[k].2})),⟨by show k+1<=_;omega,by show po.set _ _=_;rw [M6 m,<-D,addR_at hy],b.setPo hy Z Z,by show Q8 _ (1000000000000000000+100000000000000000*((k+1:Nat):Int));exact ZT hS (by omega) (by show _<=y.room+x.ef[k].2/\y.room+x.ef[k].2<=_;omega),by show (po.set _ _).length=_;rw [ωr];exact o⟩,by show x.ef.length - (k+1)<x.ef.length - k;omega,AU hF [900,920,40,50,51] Z (Z) ⟨Z,Z,Z,Z,Z,Z,trivial⟩⟩
  .refine Ar ?_;have W:po=x.ef.foldl QO N.po:=by rw [D,θ (by have h:=H;omega)]
   have hR2:C3 K L z pb (grN N i x) M2:=by unfold grN;rw [<-W];exact b
   have P:=(b.nn i (El x) Q).1;refine AE (goMv Z Z ?_);refine goMv Z Z (J (Dk Z Z) (J (Cg Z G1 Z Z Z) (J (Cg Z OG Z Z Z) (J (EG (f:=40) Z Z (P) Z Ai Z) (V (C1 3 BT Z Z Z Z Z Z Z Z) (V (Eu (l) ([x.it.id]) Z Z Z Z Z Z Z Z BT (by simp only [υ];omega) Z Z Z Z) (AB Z Z (AC ?_))))))));exact ⟨(BM I i,grN N i x,M2,l++ [x.it.id],f2),⟨hR2,gr_S u.r t E X B,by show Es a.length (BM I i)<=f2;omega,by show (l++ [x.it.id]).length+f2<=_;rw [Δ];simp;omega,by show (l++ [x.it.id])++NY c a f2 (BM I i)=_;rw [ψi,<-v,hrs,hit];rfl⟩,by show f2<f2+1;omega,AU hF [900,920,40,50,51] Z (Z) ⟨Z,Z,trivial⟩⟩
def VU (a:List UInt8):Sl:=⟨a,0,[67,65,83,72]⟩
def QD (id:Int) (a b:List UInt8) (n:Int):AJ:=⟨id,0,id,[⟨VU a,0 - n⟩,⟨VU b,n⟩],[],[]⟩
deriving instance DecidableEq for Pw
theorem Pw.eq_iff {x y:Pw}:x=y↔x.id=y.id/\x.re=y.re/\x.r=y.r/\x.by_=y.by_:=by cases x;cases y;simp
def rcK (a:UInt8):AW:=⟨0,VU [a],[],[]⟩
def nmK:List (List UInt8):=[[65],[66],[67]]
def Rf:List Ae:=[⟨rcK 65,0⟩,⟨rcK 66,0⟩,⟨rcK 67,0⟩]
theorem ers_S (a:List Ae) (b:List AJ) (c:Nat ->Bool):BN (netS a b c)=netS a b c:=by
 unfold BN netS;dsimp only;rw [ωt,ωt]
 rfl
theorem aO (n:Nat):Es n (λ_=>true)=n:=by
 unfold Es;rw [List.filter_eq_self.2 λ_ _=>rfl,ωo]
theorem run_len (p:(d.map AJ.id).Nodup):∀(f:Nat) (b:Nat ->Bool),(GM a d f b).1.length+Es d.length (GM a d f b).2=Es d.length b:=by
 intro f
 induction f with
 | zero=>intro b;show 0+_=_;rw [ψu];rfl
 | succ f n=>
  intro b
  cases hn:Fq (netS a d b) with
  | none=>rw [TX hn];show 0+_=_;rw [ψu]
  | some e=>
   obtain ⟨i,x,o,h,l⟩:=Xs hn;obtain ⟨c,g,j⟩:=Si (ers_S a d b) o;rw [h] at g;have k:i<(d.map AJ.id).length:=by rw [χ];exact c
   have m:(d.map AJ.id)[i]=e.id:=by rw [l,j,ωp,FF Ag c]
   rw [TW hn,<-m,Qy p k];have r:=n (BM b i);have q:=Mi c g.symm;show (GM a d f (BM b i)).1.length+1+Es d.length (GM a d f (BM b i)).2=Es d.length b;omega
theorem Zr (p:Prb):(largeS p).length=Es (ordP p).length (NJ p).2:=by
 unfold largeS Ek Es;rw [χ]
theorem e9 (a:BE p=0):(NJ p).1.length+(largeS p).length=p.it.length:=by grind [ordP,run_len,GX,aO,Zr,NJ,am]
theorem LA (a:BE p=0):largeS p=((ordP p).map AJ.id).filter λx=>decide (x∈largeS p):=Rt (GX a) _
theorem Zq (b:BE p=0) {y:Int} (a:y∈largeS p):y∈p.it.map AJ.id:=by grind [ordP,LA,ah]
theorem Ih (a:BE p=0):(largeS p).Nodup:=by
 rw [LA a];exact (GX a).sublist ψj
theorem MW (a:BE p=0):(largeS p).length<=p.it.length:=by have:=e9 a;omega
structure Sk (R:Int ->Int ->Prop) (l Y:List Ae):Prop where
 len:Y.length=l.length
 at_:∀(j:Nat) x y,l[j]? =some x ->Y[j]? =some y ->y.r=x.r/\ -4*Mx<=y.n/\y.n<=4*Mx/\R x.n y.n
theorem Sk.set (h:Sk R e Y) (d:m<Y.length) {n:Int} (f: -4*Mx<=n/\n<=4*Mx) (g:∀x,R x Y[m].n ->R x n):Sk R e (Y.set m ⟨Y[m].r,n⟩):=
 ⟨by rw [ωr];exact h.len,λj x y c b=>by
  rw [χw] at b
  split at b
  .rename_i a;subst a
   first | (rw [ς d] at b;injection b with b;subst b) | (injection b with b;subst b)
   have:=h.at_ m x _ c (ω d);exact ⟨this.1,f.1,f.2,g _ this.2.2.2⟩
  .exact h.at_ j x y c b⟩
theorem Sk.map (h:Sk R e Y):Y.map Ae.r=e.map Ae.r:=by
 refine ψk (by rw [χ,χ,h.len]) λj b a=>?_;rw [χ] at b a;rw [ωp,ωp];exact (h.at_ j _ _ (ω a) (ω b)).1
theorem Sk.mem (h:Sk R e Y):∀y∈Y,∃x∈e,y.r=x.r/\ -4*Mx<=y.n/\y.n<=4*Mx/\R x.n y.n:=λy c=>by
 obtain ⟨j,b,rfl⟩:=ψb.1 c;have a:j<e.length:=by rw [<-h.len];exact b
 exact ⟨e[j],ϑ a,h.at_ j _ _ (ω a) (ω b)⟩
theorem Sk.b (h:Sk R e Y) (a:m<Y.length): -4000000000000000<=Y[m].n/\Y[m].n<=4000000000000000:=by
 obtain ⟨x,_,_,c,b,_⟩:=h.mem _ (ϑ a)
 grind
section
variable {P:Program} {F:Fr} {s:AS} {d:Nat} {ty:TypeId} {pos:String} {aft:Array Edge} {g:Option (Nat×Bool)} {at_:Array TypeId}
end
variable {p:Prb}
def allL (p:Prb):List Int:=(BP p.it).map AJ.id
def wthI (id:Int) (y:AJ):AJ:=⟨y.id,y.pr,y.sq,y.po,y.pa,XG y.af id⟩
def X2 (id:Int) (its:List AJ):List AJ:=(its.filter λy=>decide (y.id≠id)).map (wthI id)
def set1 (p:Prb) (id:Int):Prb:=⟨p.ro.map λx=>⟨x.r,x.n+CC (B8 p id) x.r⟩,X2 id p.it⟩
theorem ZN (id:Int) (a:List AJ):(X2 id a).length<=a.length:=by
 unfold X2
 grind
structure Mid (p:Prb) (b:Int):Prop where
 f:GH p
 r:(p.ro.map Ae.r).Nodup
 n:∀x∈p.ro,-b<=x.n/\x.n<=b
theorem Mid.set {b:Int} (h:Mid p b) (id:Int):Mid (set1 p id) (b+1000000000000000):=by
 refine ⟨⟨?_,?_,λx d=>?_⟩,?_,λx d=>?_⟩
 .have:=ZN id p.it;have a:=h.f.i;show (X2 id p.it).length<=30;omega
 .show (p.ro.map _).length<=100;rw [χ];exact h.f.r
 .obtain ⟨y,c,rfl⟩:=Ξ.1 d;have a:=h.f.x y (ωc.1 c).1;exact ⟨a.1,a.2.1,ωa (ωj _ _) a.2.2⟩
 .show ((p.ro.map _).map Ae.r).Nodup;rw [ωt];exact h.r
 .obtain ⟨y,c,rfl⟩:=Ξ.1 d;have a:=h.n y c;have e:=fF (B8 p id) y.r
  grind
noncomputable def grossR:Nat ->Prb ->List Int
 | 0,_=> []
 | f+1,p=>match (allL p).find? λid=>decide (eY p [id]) with
  | none=> []
  | some id=>id::grossR f (set1 p id)
structure GI (G:List Int) (p:Prb) (acc:List Int) (f:Nat) (ag:Bool):Prop where
 m:Mid p (34000000000000000 - 1000000000000000*(f:Int))
 l:(allL p).length<=f
 a:acc.length+f<=30
 v:(ag=true ->acc++grossR f p=G)/\(ag=false ->acc=G)
def Yh (its:List AJ) (on:Nat ->Bool) (u:List Int):Prop:=∀j,j<its.length ->(on j=true↔(its.getD j Ag).id∉u)
theorem Yh.off {a:List AJ} (d:(a.map AJ.id).Nodup) {b:Nat ->Bool} {u:List Int} (c:Yh a b u) {i:Nat} (e:i<a.length):Yh a (BM b i) (u++ [(a.getD i Ag).id]):=by grind [id_inj,Yh,BM]
theorem TY {ros:List Ae} {its:List AJ}:∀(f:Nat) (a:Nat ->Bool),(NY ros its f a).length<=f
 | 0,_=>Γ _
 | f+1,a=>by
  cases hn:I9 ros its a with
  | none=>rw [JN hn];exact ζ _
  | some i=>rw [JM hn];have:=TY (ros:=ros) (its:=its) f (BM a i);simp;exact this
theorem set32_p (p:Prb) (l:List Int) (i:p.it.length<=1000) (o:l.length<=100000):AM prog 35 [.d (Bg p),.d (Gl l)] (AF (K8 (p.it.map AJ.id) l)):=by
 refine Ax func35 Z Z ntmps35 Z Z Z λF m=>(AD (AE (V (Bi 1 Z Z Z Z Z Z Z) ?_)));refine AB Z Z (AC (AD (AD (AE (AB Z Z (AC (A2 (BO (α:=Nat) (λk=>⟨27,[(1,.d (Gl l)),(2,(.ptr 1 0 0)),(5,(.d (AF (k:Int))))],[(1,[.blk 25 [.d (.sl none (p.ro.map Bl)),.d (.sl none (p.it.map Af))]])]⟩) (λk=>k<=l.length/\K8 (p.it.map AJ.id) l=BQ (((List.range l.length).drop k).map (Et (p.it.map AJ.id) l))) (λk=>l.length - k) (0) (⟨ζ _,Z⟩) (AU m [1] Z Z ⟨Z,Z,Z,trivial⟩) ?_))))))));rintro k ⟨n,j⟩;refine AD (AD (AE (goMv Z Z (goMv Z Z (J (BU Z underlying28 Z) (J (Az Z Z Z) (AC (A7 Z (λg=>?_) (λg=>?_)))))))))
 .have a:k<l.length:=BR g;refine AX (AD (A2 (AD (AD ?_))));have c:=Zcw a j;have b:=FF 0 a;refine CD [[],[],[],[1,2],[1,2,3],rg 5,rg 6] mixed Z (Bt ?_);refine As [2] [1] Z Z (λ_=>A8 (BA Z Z ED Z Z Z)) (Ak 1 Z Z (Ak 5 Z Z (AP [13,14] Z (BC (k) Z Z (Z) (A3 a) underlying28 Z BD Z) (AP [15] Z (CF Z Z Ai Z) (Bk 5 Z Z Z (Ab 6 Z Z (J (Aw (Wc p l[k] (by omega)) Z Z) (AC ⟨Z,?_⟩))))))));refine Ab 7 Z Z (J (Az Z Z Z) (AC ⟨Z,?_⟩));refine Bx (A7 Z (λf=>?_) (λf=>?_))
  .refine AD (AE (AB Z Z (AC (AZ ?_))));exact ⟨_,[],[],AY Z,Z,Z,A0 (c.2 9 (by unfold Et;rw [b,ς (YI f)]) (by decide)),Z⟩
  .refine AX (AD (CD [[],[],[0,1],[],[],[3,4],[3,4,5],rg 7] mixed Z (Bt (Ak 1 Z Z (Ak 5 Z Z ?_)))));refine AP [19,20] Z (Zch (l) (k) Z Z Z (Z) (by omega) underlying28 BD (λ_=>rfl) Z) (Ak 1 Z Z (Ak 5 Z Z (AP [22,23] Z (BC (k) Z Z (Z) (A3 a) underlying28 Z BD Z) (AP [24] Z (CF Z Z Ai Z) (Bk 7 Z Z Z (Ab 8 Z Z (J (Aw (FO (l.take k) l[k] (by rw [ϱ];omega)) Z Z) (AC ⟨Z,?_⟩))))))));refine Bx (A7 Z (λe=>?_) (λe=>?_))
   .refine AD (AE (AB Z Z (AC (AZ ?_))));exact ⟨_,[],[],AY Z,Z,Z,A0 (c.2 7 (by unfold Et;rw [b,η (λh=>h (W2 (by omega))),ς e]) (by decide)),Z⟩
   .refine AX (AE (goMv Z Z (J (Ah Z Z (AK (k+1) (by omega)) Z) (AB Z Z (AC ?_)))));exact ⟨k+1,⟨by show k+1<=_;omega,c.1 (by unfold Et;rw [b,η (λh=>h (W2 (by omega))),η e])⟩,by show l.length - (k+1)<l.length - k;omega,AU m [1] Z (Z) ⟨Z,Z,Z,trivial⟩⟩
 .refine Ar (AD (AE (AB Z Z (AC (AZ ?_)))));exact ⟨_,[],[],AY Z,Z,Z,A0 (by rw [j,χp (by have h:=g;simp only [ωo];omega)];rfl),Z⟩
abbrev bkD (x:Int×Ae):D:= .agg [AF x.1,AF x.2.r.k,Aq x.2.r.acc.o,AF x.2.r.acc.k,Aq x.2.r.acc.a,Aq x.2.r.f,Aq x.2.r.t,AF x.2.n]
noncomputable def vio1L (p:Prb) (id:Int):List Ae:=NU p (BS (cloS p [id]))
noncomputable def bkOf (p:Prb) (id:Int):Option (Int×Ae):=if id∈largeS p then none else (vio1L p id).head?.map λx=>(id,x)
noncomputable def bksL (p:Prb):List (Int×Ae):=((BP p.it).map AJ.id).filterMap (bkOf p)
theorem VN {id:Int} (h:id∈largeS p):bkOf p id=none:=ς h
theorem fe {id:Int} (h:¬0<(vio1L p id).length):bkOf p id=none:=by grind [bkOf]
theorem bk_some {id:Int} (a:id∉largeS p) (h:0<(vio1L p id).length):bkOf p id=some (id,(vio1L p id)[0]):=by
 unfold bkOf;rw [η a,List.head?_eq_getElem?,ω h]
 rfl
theorem SH {a b:Type} {f:a ->Option b} {l:List a} {k:Nat} (c:k<l.length):(l.take (k+1)).filterMap f=(l.take k).filterMap f++(f l[k]).toList:=by grind [ψ]
theorem S8 (a:BE p=0) {l:List Int} (b:l.Nodup) (d:∀x∈l,x∈p.it.map AJ.id):C5 p l=0:=by
 unfold C5;rw [η (by omega)];unfold K8;refine V1.2 λk c=>?_
 grind [Et,Ks]
theorem cloG_in {S:List Int}:∀y∈cloS p S,y∈p.it.map AJ.id:=by grind [cloS,DW]
theorem cloG_nd (a:BE p=0) (S:List Int):(cloS p S).Nodup:=by
 unfold cloS;exact (DW _).nodup_iff.2 (List.Nodup.sublist ψj (Df (Pk a).2.1))
theorem getV {l:List Ae} (h:0<l.length):(l.map Bl)[0]? =some (Bl l[0]):=A3 h
set_option maxHeartbeats 2000000 in
theorem aW (p:Prb) (o:GH p) (g:BE p=0):AM prog 31 [.d (Bg p)] (.tup [.sl none ((bksL p).map bkD),AF 0]):=by
 have z:=Jz p o g;have I:=o.i;have y:=o.r;have f:=I6 p o.b;rw [show ordP p=BP p.it from ς g] at f;have K:=MW g;have D:=am p.it;have t:=λ{id:Int} (c:id∈p.it.map AJ.id)=>closF_c p [id] o.b (by simp) (by omega) (by omega) (S8 g (by simp) λx n=>by rw [κ.1 n];exact c) (by simp) λx n=>by rw [κ.1 n];exact c
 have s:∀id:Int,AM prog 28 [.d (Bg p),.d (Gl (cloS p [id]))] (.tup [.sl none ((vio1L p id).map Bl),AF 0]):=λid=>by
  have h:=violF_p p (cloS p [id]) o.b (by have:=fU (p:=p) (l:=[id]);omega);rw [S8 g (cloG_nd g _) cloG_in,ς rfl] at h;exact h
 obtain ⟨L,v⟩:∃L,(BP p.it).map AJ.id=L:=⟨_,Z⟩
 have P:L.length<=30:=by rw [<-v,χ,D];omega
 have E:∀x∈L,x∈p.it.map AJ.id:=λx n=>by rw [<-v] at n;exact ((ah p.it).map AJ.id).mem_iff.1 n
 have B:bksL p=L.filterMap (bkOf p):=by unfold bksL;rw [v]
 rw [v] at f;rw [B];refine Ax func31 Z Z ntmps31 Z Z Z λF w=>?_;refine AD (AE (V (Bi 1 Z Z Z Z Z Z Z) (AB Z Z (AB Z Z (AC (AD (AE (J (BA Z Z Br Z Z Z) ?_))))))));refine J (Aw (z) Z Z) (goMv Z Z (J (Di Z Z Z) (J (Di Z Z Z) (AB Z Z (AB Z Z (AC (AD (AD ?_))))))));refine AE (goMv Z Z (J (C7 Z Z Z) (AC (Cu Z (ωh (by decide)) (AX (AD (AE (goMv Z Z ?_))))))));refine Cd (Ve (Gp (largeS p) (Ih g) (by omega)) Z [41] ⟨Z,trivial⟩ Z Z Z Z (λr Q ⟨b,N,H,G,_⟩=>by subst H G;exact ⟨Z,Z,Z⟩) Z) Z ?_;rintro _ ⟨r,Q,⟨b,N,H,G,O⟩,rfl⟩;subst H G;refine AB Z Z (AC (AD (AE (AB Z Z (AC (AD (AD ?_)))))));refine AE (J (BA Z Z Br Z Z Z) (J (Aw (f) Z Z) (J (BU Z underlying28 Z) (goMv Z Z (AC (A2 (NR 7 10 sl30 Z Z Z Z (BO (α:=Nat×List (Int×Ae)) (λq=>⟨65,[(1,(.ptr 1 0 0)),(6,(.d (Pq b))),(7,(.own 10 0 q.2.length)),(25,(.d (Gl L))),(26,(.d (AF (L.length:Int)))),(27,(.d (AF (q.1:Int))))],[(1,[.blk 39 [.d (.sl none (p.ro.map Bl)),.d (.sl none (p.it.map Af))]]),(41,[.multi N]),(10,[.rowD 66 8 (q.2.map bkD)])]⟩) (λq=>q.1<=L.length/\q.2=(L.take q.1).filterMap (bkOf p)/\q.2.length<=q.1) (λq=>L.length - q.1) ((0,[])) (⟨ζ _,Z,ζ _⟩) (AU w [1,41,10] Z Z ⟨Z,Z,Z,Z,Z,Z,trivial⟩) ?_))))))));rintro ⟨k,T⟩ ⟨M,u,C⟩;dsimp only at M u C⊢;refine AD (AE (J (Az Z Z Z) (AC (AD (A7 Z (λm=>?_) (λm=>?_))))))
 .refine AX (AD (A2 (AD ?_)));have a:k<L.length:=BR m;have c:=E _ (ϑ a);refine AE (J (BC (k) Z Z (Z) (A3 a) underlying28 Z BD Z) (J (CF Z Z Ai Z) (AB Z Z ?_)));refine AC (AD (AD (AE (goMv Z Z (goMv Z Z (V (Vc (EJ O L[k]) Z [41] ⟨Z,trivial⟩ Z Z Z Z Z Z Z Z Z) (AC (A7 Z (λj=>?_) (λj=>?_)))))))))
  .refine Ar (AE (J (Ah Z Z (AK (k+1) (by omega)) Z) (goMv Z Z (AC ?_))));exact ⟨(k+1,T),⟨a,by show _=(L.take (k+1)).filterMap _;rw [SH a,VN j,u];simp,by show T.length<=k+1;omega⟩,by show L.length - (k+1)<L.length - k;omega,AU w [1,41,10] Z (Z) ⟨Z,Z,Z,Z,Z,Z,trivial⟩⟩
  .refine AX (AD (AE (J (BA Z Z Br Z Z Z) (goMv Z Z (V (C1 20 BT Z Z Z Z Z Z Z Z) ?_)))));refine Vb (emb:=AF) 37 20 [L[k]] Z Z Z Z Z Z Z (V (FG (t c) Z [900] ⟨Z,trivial⟩ Z Z Z Z Z Z Z Z Z) (goMv Z Z (J (DG Z Z Z) (J (DG Z Z Z) (AB Z Z (AB Z Z (AC (AD ?_))))))));refine KP (emb:=AF) 10 900 (cloS p [L[k]]) Z Z Z Z Z Z Z (AE (J (BA Z Z Br Z Z Z) (goMv Z Z (J (Aw (s L[k]) Z Z) (goMv Z Z (J (Di Z Z Z) (J (Di Z Z Z) (AB Z Z ?_))))))));refine AB Z Z (AC (AD (AE (goMv Z Z (J (IQ Z (χ ..) underlying69 Z) (J (Gi Z Z Z) (AC (A7 Z (λi=>?_) (λi=>?_)))))))))
   .have e:0<(vio1L p L[k]).length:=BR i;refine CD [[],[],[],[2],[2,3],[2,3,4],[],[6],[6,7],[6,7,8],[1,2,3,4,5,6,7,8,9],[1,2,3,4,5,6,7,8,9,10],rg 12,rg 13] mixed Z (Bt (Ak 7 Z Z (Ak 9 Z Z (Ak 12 Z Z (AP [52] Z (BC (0) Z Z (Z) (getV e) underlying69 Z sz73 Z) (AP [53] Z (V3 Z fi73_0 Z Z Z) (AP [54] Z (Ca Z Z Cc Z) (Ak 12 Z Z ?_))))))));refine AP [56] Z (BC (0) Z Z (Z) (getV e) underlying69 Z sz73 Z) (AP [57] Z (NP Z fi73_1 Z Z Z) (AP [58] Z (CF Z Z Fn Z) (AP [51,55,59] Z (EI zl66 pl66 Z Z Z) (F5 [60] [30] [(61,_)] Z Z (λ_=>F6 (C1 30 sl30 Z Z Z Z Z Z Z Z)) (.inr ⟨61,_,Z,Z,Z,Z,Z⟩) Z Z Z Z Z (Bk 12 Z Z Z (Ab 13 Z Z (V (Eu (T) ([(L[k],(vio1L p L[k])[0])]) Z Z Z Z Z Z Z Z sl30 (by simp only [υ];omega) Z Z Z Z) (AC ⟨Z,?_⟩))))))));refine Ab 14 Z Z (AB Z Z (AC ⟨Z,?_⟩));refine Bx (AE (J (Ah Z Z (AK (k+1) (by omega)) Z) (goMv Z Z (AC ?_))));exact ⟨(k+1,T++ [(L[k],(vio1L p L[k])[0])]),⟨a,by show _=(L.take (k+1)).filterMap _;rw [SH a,bk_some j e,u];rfl,by show (T++ [_]).length<=k+1;rw [Δ];simp only [υ];omega⟩,by show L.length - (k+1)<L.length - k;omega,AU w [1,41,10] Z (Z) ⟨Z,Z,Z,Z,Z,Z,trivial⟩⟩
   .refine AX (AE (J (Ah Z Z (AK (k+1) (by omega)) Z) (goMv Z Z (AC ?_))));exact ⟨(k+1,T),⟨a,by show _=(L.take (k+1)).filterMap _;rw [SH a,fe (λh=>i (by exact_mod_cast h)),u];simp,by show T.length<=k+1;omega⟩,by show L.length - (k+1)<L.length - k;omega,AU w [1,41,10] Z (Z) ⟨Z,Z,Z,Z,Z,Z,trivial⟩⟩
 .refine Ar (AD ?_);have A:k=L.length:=by have:=m;omega
  refine KP (emb:=bkD) 7 10 T Z Z Z Z Z Z Z ?_;rw [show T=L.filterMap (bkOf p) by rw [u,A,ωl]];refine AE (goMv Z Z (AB Z Z (AB Z Z (AC (AZ ?_)))));exact ⟨_,[],[],AY Z,Z,Z,Z,Z⟩
end Go.Proofs.YteifpcnphnhaoaaGreat
