import Derived.Test.YteifpcnphnhaoaaGreatMg18
open Go.Proofs.Tryz
namespace Go.Proofs.YteifpcnphnhaoaaGreat
open Go.RowKit
variable {i:AJ} {a:Type} {k:Nat} {e:Int} {c:AW} {d f:List a}
set_option maxRecDepth 100000
theorem MX:∀{l:List AW} {r:AW} {k:Nat},(∀x∈l.take k,Bm x r<0) ->l[k]? =some r ->Ce l r=l
 | [],_,_,_,h=>by simp at h
 | a::l,r,0,_,h=>by
  simp at h;subst h
  simp [Ce,Pu.refl]
 | a::l,r,k+1,b,h=>by
  have d:Bm a r<0:=b a (by simp);simp only [Ce,ς d];rw [MX (k:=k) (λx c=>b x (by simp [c])) (by simpa using h)]
theorem Ik:∀{l:List AW} {r:AW} {k:Nat},k<=l.length ->(∀x∈l.take k,Bm x r<0) ->(∀x,l[k]? =some x ->¬Bm x r<0/\x≠r) ->Ce l r=(l.take k++ [r])++l.drop k
 | [],r,0,_,_,_=>rfl
 | [],r,k+1,h,_,_=>by simp at h
 | a::l,r,0,_,_,h=>by
  obtain ⟨b,d⟩:=h a rfl
  simp [Ce,η b,η d]
 | a::l,r,k+1,e,b,h=>by
  have d:Bm a r<0:=b a (by simp);simp only [Ce,ς d];rw [Ik (k:=k) (by simpa using e) (λx c=>b x (by simp [c])) (λx c=>h x (by simpa using c))]
  simp
theorem LG (l:List AW) (r:AW):(Ce l r).length<=l.length+1:=by
 induction l with
 | nil=>simp [Ce]
 | cons a l b=>
  grind [Ce]
theorem OO (c:List (AW×Int)):(touL c).length<=c.length:=by
 induction c using ac with
 | h0=>simp [touL]
 | h1 l x a=>rw [JG];have:=LG (touL l) x.1;simp only [Δ,υ];omega
def pd (r:AW) (p:EC):Int:=if p.acc=r.acc then p.d else 0
def R5 (r:AW) (p:Jl):Int:=if p.f=r.f/\(r.k=2\/p.t=r.t) then p.n else 0
def R4 (r:AW) (p:Jl):Int:=if p.t=r.f/\(r.k=2\/p.f=r.t) then p.n else 0
def yd (r:AW) (p:Jl):Int:= - R5 r p+R4 r p
def MC (i:AJ) (r:AW):Int:=if r.k=0 then (i.po.map (pd r)).sum else (i.pa.map (yd r)).sum
theorem Ir {l:List (AW×Int)} (h:∀x∈l,x.1≠c):An l c=0:=by
 induction l with
 | nil=>rfl
 | cons x l a=>
  grind [An]
theorem Ut (l:List a) (f:a ->List (AW×Int)) (r:AW):An (l.flatMap f) r=(l.map λb=>An (f b) r).sum:=by
 induction l with
 | nil=>rfl
 | cons b l c=>rw [List.flatMap_cons,Gf,c];rfl
theorem Qe (h:Al c=0):MC i c=An (ctr i) c:=by
 unfold MC ctr;rw [Gf];unfold Al at h
 split at h
 .rename_i a
  split at h
  .rename_i d
   rw [ς a]
   have q:An (HS i.pa) c=0:=Ir λx m e=>by
    obtain ⟨p,_,s⟩:=χl.1 m;simp only [Mg,Υ,List.not_mem_nil,or_false] at s;rw [<-e] at a;rcases s with rfl | rfl | rfl | rfl<;>simp at a
   rw [q,Int.add_zero];unfold An EB;rw [ωt]
   congr 1
   apply ωe
   intro p _;simp only [pd,Function.comp,Gx]
   have e:(({k:=0,acc:=p.acc,f:=[],t:=[]}:AW)=c)↔p.acc=c.acc:=by
    rw [AW.eq_iff];simp [a,d.2.2.2.2.1,d.2.2.2.2.2]
   by_cases l:p.acc=c.acc
   .rw [ς l,ς (e.2 l)]
   .rw [η l,η (λh=>l (e.1 h))]
  .cases h
 .rename_i a
  rw [η a]
  have q:An (EB i.po) c=0:=Ir λx m e=>by
   obtain ⟨p,_,rfl⟩:=Ξ.1 m;rw [<-e] at a;simp at a
  rw [q,Int.zero_add];unfold HS;rw [Ut]
  congr 1
  apply ωe
  intro p _;simp only [yd,R5,R4,Mg,An,ψq,List.map_nil,List.sum_cons,List.sum_nil,CK,DL,AW.eq_iff]
  split at h
  .rename_i o
   split at h
   .rename_i d
    have g:(acc0=c.acc)=True:=eq_true d.2.2.2.symm;simp only [o,g];have v:¬(1:Int)=2:=by decide
    have u:¬(2:Int)=1:=by decide
    simp only [v,u,false_and,false_or,true_and,if_false]
    by_cases b:p.f=c.f/\p.t=c.t
    .by_cases j:p.t=c.f/\p.f=c.t
     .rw [ς b,ς j,ς b];omega
     .rw [ς b,η j,ς b];omega
    .by_cases j:p.t=c.f/\p.f=c.t
     .rw [η b,ς j,η b];omega
     .rw [η b,η j,η b];omega
   .cases h
  .split at h
   .rename_i n
    split at h
    .rename_i d
     have g:(acc0=c.acc)=True:=eq_true d.2.2.symm;simp only [n,g,d.2.1]
     by_cases y:p.f=c.f<;>by_cases w:p.t=c.f<;>simp [y,w]<;>omega
    .cases h
   .cases h
theorem Ij (l:List AW) (r:AW) (m:l.length<=100000):AM prog 152 [.d (.sl none (l.map Bd)),.d (Bd r)] (.sl none ((Ce l r).map Bd)):=by
 refine Ax func152 Z Z ntmps152 Z Z Z λF j=>(AD (AE (V (Bi 1 Z Z Z Z Z Z Z) ?_)));refine AB Z Z (AC (AD (AE (AB Z Z (AC (AD (A2 (BO (α:=Nat) (λk=>⟨49,[(0,.d (.sl none (l.map Bd))),(3,(.ptr 1 0 0)),(5,(.d (AF (k:Int))))],[(1,[.blk 98 [.d (AF r.k),.d (Aq r.acc.o),.d (AF r.acc.k),.d (Aq r.acc.a),.d (Aq r.f),.d (Aq r.t)]])]⟩) (λk=>k<=l.length/\∀x∈l.take k,Bm x r<0) (λk=>l.length - k) (0) (⟨ζ _,by simp⟩) (AU j [1] Z Z ⟨Z,Z,Z,trivial⟩) ?_))))))));rintro k ⟨g,h⟩;refine AD (AD ?_);refine CD [[],[],[1],[0,1,2],[0,1,2,3],rg 5,rg 5,rg 7,rg 8,rg 5,rg 10,rg 11,rg 12] mixed Z (Bt (Ak 5 Z Z (Ak 0 Z Z (AP [8] Z (BU Z underlying194 Z) (Bk 3 Z Z Z (Ab 4 Z Z (J (Az Z Z Z) (AC ⟨Z,?_⟩))))))));refine Ab 5 Z Z (goMv Z Z (CX 11 Z (λi=>?_) (λi=>?_)))
 .refine AC ⟨Z,?_⟩;refine Bt ?_
  try have a:k<l.length:=BR i
  refine As [0,11] [] Z Z (λ_=>Ct Z Z Z (Pv Z Z)) ?_;refine As [5,11] [] Z Z (λ_=>Ct Z Z Z (Pv Z Z)) (As [12,13,11] [] Z Z (λ_=>Ct Z Z Z (BC (k) Z Z (Z) (A3 a) underlying194 Z KX Z)) (As [14,11] [] Z Z (λ_=>Ct Z Z Z (Ca Z Z G6 Z)) (Aj [3,11] Z Z (λ_=>Ct Z Z Z (BA Z Z G6 Z Z Z)) (Bk 10 Z Z Z (Ab 11 Z Z (AR Z Z Z (J (Aw (Rm l[k] r) Z Z) (AC ⟨Z,?_⟩))))))));refine Ab 12 Z Z (AR Z Z Z (J (Az Z Z Z) (AC ⟨Z,?_⟩)));refine Ab 13 Z Z (J (BY Z Z Z Z) (AC ⟨Z,?_⟩));refine Bx (A7 Z (λf=>?_) (λf=>?_))
  .refine AX (A2 (AE (goMv Z Z (J (Ah Z Z (AK (k+1) (by omega)) Z) (AB Z Z (AC ?_))))));exact ⟨k+1,⟨by show k+1<=_;omega,by rw [ψ a];intro x b;rcases ϖ.1 b with b | b;exact h x b;rw [κ.1 b];exact f⟩,by show l.length - (k+1)<l.length - k;omega,AU j [1] Z (Z) ⟨Z,Z,Z,trivial⟩⟩
  .refine Ar (AD (AD ?_));refine CD [[],[],[1],[0,1,2],[0,1,2,3],rg 5,rg 5,rg 7,rg 8,rg 5,rg 10,rg 11] mixed Z (Bt (Ak 5 Z Z (Ak 0 Z Z (AP [23] Z (BU Z underlying194 Z) (Bk 3 Z Z Z (Ab 4 Z Z (J (Az Z Z Z) (AC ⟨Z,?_⟩))))))));refine Ab 5 Z Z (goMv Z Z (CX 26 Z (λe=>?_) (λe=>?_)))
   .refine AC ⟨Z,?_⟩;refine Bt ?_
    try have a:k<l.length:=BR e
    refine As [0,26] [] Z Z (λ_=>Ct Z Z Z (Pv Z Z)) ?_;refine As [5,26] [] Z Z (λ_=>Ct Z Z Z (Pv Z Z)) (As [27,28,26] [] Z Z (λ_=>Ct Z Z Z (BC (k) Z Z (Z) (A3 a) underlying194 Z KX Z)) (As [29,26] [] Z Z (λ_=>Ct Z Z Z (Ca Z Z G6 Z)) (Aj [3,26] Z Z (λ_=>Ct Z Z Z (BA Z Z G6 Z Z Z)) (Bk 10 Z Z Z (Ab 11 Z Z (AR Z Z Z (J (Fe (la:=NZ l[k]) (lb:=NZ r) (ds:=cK) (by kernel_rfl) (by kernel_rfl) (by kernel_rfl) Z Z Z Z (EP _) (EP _) (Ng _ _) Z) (AC ⟨Z,?_⟩))))))));refine Ab 12 Z Z (J (BY Z Z Z Z) (AC ⟨Z,?_⟩));refine Bx (A7 Z (λc=>?_) (λc=>?_))
    .refine AD (AE (goMv Z Z (AB Z Z (AC (AZ ?_)))));exact ⟨_,[],[],AY Z,Z,Z,by rw [MX h ((ω a).trans (by rw [c]))],Z⟩
    .refine AX (AD (AE (V (C1 20 D8 Z Z Z Z Z Z Z Z) (goMv Z Z (goMv Z Z ?_)))));refine J (Zch (l) (k) Z Z Z (Z) (by omega) underlying194 KX (λ_=>rfl) Z) (V (QR (([]:List AW)) (l.take k) Z Z Z Z Z Z (λ_=>rfl) D8 (by simp only [χc,ϱ];omega) Z Z Z Z) (AB Z Z (AC (AD (AE (goMv Z Z (J (BA Z Z G6 Z Z Z) (V (C1 21 D8 Z Z Z Z Z Z Z Z) ?_))))))));refine V (Eu (([]++l.take k)) ([r]) Z Z Z Z Z Z Z Z D8 (by simp only [χj,υ,ϱ];omega) Z Z Z Z) ?_;refine AB Z Z (AC (AD (AE (goMv Z Z (goMv Z Z (goMv Z Z (J (D6 (l) (k) Z Z Z (Z) (by omega) underlying194 KX (λ_=>rfl) Z) ?_)))))));refine V (QR ((([]++l.take k)++ [r])) (l.drop k) Z Z Z Z Z Z (λ_=>rfl) D8 (by simp only [χj,Δ,υ,ϱ,χd];omega) Z Z Z Z) ?_;refine Vb (emb:=Bd) 48 20 ((([]++l.take k)++ [r])++l.drop k) Z Z Z Z Z Z Z (AB Z Z (AC (AZ ?_)));exact ⟨_,[],[],AY Z,Z,Z,by rw [Ik g h λx b=>by first | (exact absurd (φ.1 b).1 (by omega)) | (rw [ω a] at b;injection b with b;subst b;exact ⟨f,c⟩)];rfl,Z⟩
   .refine AC ⟨Z,?_⟩;refine Bt ?_
    try have a:k<l.length:=BR e
    refine As [0,26] [] Z Z (λ_=>EH Z Z Z Z) (As [5,26] [] Z Z (λ_=>EH Z Z Z Z) (As [27,28,26] [] Z Z (λ_=>EH Z Z Z Z) (As [29,26] [] Z Z (λ_=>EH Z Z Z Z) (As [3,26] [] Z Z (λ_=>EH Z Z Z Z) (Bk 10 Z Z Z (Ab 11 Z Z (AI Z Z Z Z (AC ⟨Z,?_⟩))))))));refine Ab 12 Z Z (J (Bf Z Z Z Z) (AC ⟨Z,?_⟩));refine Bx (Cu Z Z (AX (AD (AE (V (C1 20 D8 Z Z Z Z Z Z Z Z) (goMv Z Z (goMv Z Z ?_)))))));refine J (Zch (l) (k) Z Z Z (Z) (by omega) underlying194 KX (λ_=>rfl) Z) (V (QR (([]:List AW)) (l.take k) Z Z Z Z Z Z (λ_=>rfl) D8 (by simp only [χc,ϱ];omega) Z Z Z Z) (AB Z Z (AC (AD (AE (goMv Z Z (J (BA Z Z G6 Z Z Z) (V (C1 21 D8 Z Z Z Z Z Z Z Z) ?_))))))));refine V (Eu (([]++l.take k)) ([r]) Z Z Z Z Z Z Z Z D8 (by simp only [χj,υ,ϱ];omega) Z Z Z Z) ?_;refine AB Z Z (AC (AD (AE (goMv Z Z (goMv Z Z (goMv Z Z (J (D6 (l) (k) Z Z Z (Z) (by omega) underlying194 KX (λ_=>rfl) Z) ?_)))))));refine V (QR ((([]++l.take k)++ [r])) (l.drop k) Z Z Z Z Z Z (λ_=>rfl) D8 (by simp only [χj,Δ,υ,ϱ,χd];omega) Z Z Z Z) ?_;refine Vb (emb:=Bd) 48 20 ((([]++l.take k)++ [r])++l.drop k) Z Z Z Z Z Z Z (AB Z Z (AC (AZ ?_)));exact ⟨_,[],[],AY Z,Z,Z,by rw [Ik g h λx b=>by first | (exact absurd (φ.1 b).1 (by omega)) | (rw [ω a] at b;injection b with b;subst b;exact ⟨f,c⟩)];rfl,Z⟩
 .refine AC ⟨Z,?_⟩;refine Bt ?_
  try have a:k<l.length:=BR i
  refine As [0,11] [] Z Z (λ_=>EH Z Z Z Z) (As [5,11] [] Z Z (λ_=>EH Z Z Z Z) (As [12,13,11] [] Z Z (λ_=>EH Z Z Z Z) (As [14,11] [] Z Z (λ_=>EH Z Z Z Z) (As [3,11] [] Z Z (λ_=>EH Z Z Z Z) (Bk 10 Z Z Z (Ab 11 Z Z (AI Z Z Z Z (AC ⟨Z,?_⟩))))))));refine Ab 12 Z Z (AI Z Z Z Z (AC ⟨Z,?_⟩));refine Ab 13 Z Z (J (Bf Z Z Z Z) (AC ⟨Z,?_⟩));refine Bx (Cu Z Z (Ar (AD (AD ?_))));refine CD [[],[],[1],[0,1,2],[0,1,2,3],rg 5,rg 5,rg 7,rg 8,rg 5,rg 10,rg 11] mixed Z (Bt (Ak 5 Z Z (Ak 0 Z Z (AP [23] Z (BU Z underlying194 Z) (Bk 3 Z Z Z (Ab 4 Z Z (J (Az Z Z Z) (AC ⟨Z,?_⟩))))))));refine Ab 5 Z Z (goMv Z Z (CX 26 Z (λe=>?_) (λe=>?_)))
  .refine AC ⟨Z,?_⟩;refine Bt ?_
   try have a:k<l.length:=BR e
   refine As [0,26] [] Z Z (λ_=>Ct Z Z Z (Pv Z Z)) ?_;refine As [5,26] [] Z Z (λ_=>Ct Z Z Z (Pv Z Z)) (As [27,28,26] [] Z Z (λ_=>Ct Z Z Z (BC (k) Z Z (Z) (A3 a) underlying194 Z KX Z)) (As [29,26] [] Z Z (λ_=>Ct Z Z Z (Ca Z Z G6 Z)) (Aj [3,26] Z Z (λ_=>Ct Z Z Z (BA Z Z G6 Z Z Z)) (Bk 10 Z Z Z (Ab 11 Z Z (AR Z Z Z (J (Fe (la:=NZ l[k]) (lb:=NZ r) (ds:=cK) (by kernel_rfl) (by kernel_rfl) (by kernel_rfl) Z Z Z Z (EP _) (EP _) (Ng _ _) Z) (AC ⟨Z,?_⟩))))))));refine Ab 12 Z Z (J (BY Z Z Z Z) (AC ⟨Z,?_⟩));refine Bx (A7 Z (λc=>?_) (λc=>?_))
   .refine AD (AE (goMv Z Z (AB Z Z (AC (AZ ?_)))));exact ⟨_,[],[],AY Z,Z,Z,by rw [MX h ((ω a).trans (by rw [c]))],Z⟩
   .refine AX (AD (AE (V (C1 20 D8 Z Z Z Z Z Z Z Z) (goMv Z Z (goMv Z Z ?_)))));refine J (Zch (l) (k) Z Z Z (Z) (by omega) underlying194 KX (λ_=>rfl) Z) (V (QR (([]:List AW)) (l.take k) Z Z Z Z Z Z (λ_=>rfl) D8 (by simp only [χc,ϱ];omega) Z Z Z Z) (AB Z Z (AC (AD (AE (goMv Z Z (J (BA Z Z G6 Z Z Z) (V (C1 21 D8 Z Z Z Z Z Z Z Z) ?_))))))));refine V (Eu (([]++l.take k)) ([r]) Z Z Z Z Z Z Z Z D8 (by simp only [χj,υ,ϱ];omega) Z Z Z Z) ?_;refine AB Z Z (AC (AD (AE (goMv Z Z (goMv Z Z (goMv Z Z (J (D6 (l) (k) Z Z Z (Z) (by omega) underlying194 KX (λ_=>rfl) Z) ?_)))))));refine V (QR ((([]++l.take k)++ [r])) (l.drop k) Z Z Z Z Z Z (λ_=>rfl) D8 (by simp only [χj,Δ,υ,ϱ,χd];omega) Z Z Z Z) ?_;refine Vb (emb:=Bd) 48 20 ((([]++l.take k)++ [r])++l.drop k) Z Z Z Z Z Z Z (AB Z Z (AC (AZ ?_)));exact ⟨_,[],[],AY Z,Z,Z,by rw [Ik g h λx b=>by first | (exact absurd (φ.1 b).1 (by omega)) | (rw [ω a] at b;injection b with b;subst b;exact ⟨f,c⟩)];rfl,Z⟩
  .refine AC ⟨Z,?_⟩;refine Bt ?_
   try have a:k<l.length:=BR e
   refine As [0,26] [] Z Z (λ_=>EH Z Z Z Z) (As [5,26] [] Z Z (λ_=>EH Z Z Z Z) (As [27,28,26] [] Z Z (λ_=>EH Z Z Z Z) (As [29,26] [] Z Z (λ_=>EH Z Z Z Z) (As [3,26] [] Z Z (λ_=>EH Z Z Z Z) (Bk 10 Z Z Z (Ab 11 Z Z (AI Z Z Z Z (AC ⟨Z,?_⟩))))))));refine Ab 12 Z Z (J (Bf Z Z Z Z) (AC ⟨Z,?_⟩));refine Bx (Cu Z Z (AX (AD (AE (V (C1 20 D8 Z Z Z Z Z Z Z Z) (goMv Z Z (goMv Z Z ?_)))))));refine J (Zch (l) (k) Z Z Z (Z) (by omega) underlying194 KX (λ_=>rfl) Z) (V (QR (([]:List AW)) (l.take k) Z Z Z Z Z Z (λ_=>rfl) D8 (by simp only [χc,ϱ];omega) Z Z Z Z) (AB Z Z (AC (AD (AE (goMv Z Z (J (BA Z Z G6 Z Z Z) (V (C1 21 D8 Z Z Z Z Z Z Z Z) ?_))))))));refine V (Eu (([]++l.take k)) ([r]) Z Z Z Z Z Z Z Z D8 (by simp only [χj,υ,ϱ];omega) Z Z Z Z) ?_;refine AB Z Z (AC (AD (AE (goMv Z Z (goMv Z Z (goMv Z Z (J (D6 (l) (k) Z Z Z (Z) (by omega) underlying194 KX (λ_=>rfl) Z) ?_)))))));refine V (QR ((([]++l.take k)++ [r])) (l.drop k) Z Z Z Z Z Z (λ_=>rfl) D8 (by simp only [χj,Δ,υ,ϱ,χd];omega) Z Z Z Z) ?_;refine Vb (emb:=Bd) 48 20 ((([]++l.take k)++ [r])++l.drop k) Z Z Z Z Z Z Z (AB Z Z (AC (AZ ?_)));exact ⟨_,[],[],AY Z,Z,Z,by rw [Ik g h λx b=>by first | (exact absurd (φ.1 b).1 (by omega)) | (rw [ω a] at b;injection b with b;subst b;exact ⟨f,c⟩)];rfl,Z⟩
theorem JI {l:List a} {f:a ->Int} {B:Int} (h:∀x∈l,-B<=f x/\f x<=B) (n:Nat) (b:l.length<=n) (e:0<=B): -(n*B)<=(l.map f).sum/\(l.map f).sum<=n*B:=by
 induction l generalizing n with
 | nil=>have:=Int.mul_nonneg (Int.natCast_nonneg n) e;simp only [List.map_nil,List.sum_nil];omega
 | cons x l c=>
  obtain ⟨m,rfl⟩:∃m,n=m+1:=⟨n - 1,by simp at b;omega⟩
  have g:=c (λy d=>h y (by simp [d])) m (by simpa using b)
  grind
theorem Sq {l:List a} {f:a ->Int} (b:k<l.length):((l.take (k+1)).map f).sum=((l.take k).map f).sum+f l[k]:=by
 rw [ψ b,Ω,χt];simp
theorem pd_b (a:ItmB i) (r:AW) (k:Nat): -256000000000000000<=((i.po.take k).map (pd r)).sum/\((i.po.take k).map (pd r)).sum<=256000000000000000:=by
 have h:=JI (l:=i.po.take k) (f:=pd r) (B:=Mx) (λx b=>by
  have:=a.d x (ωs b);simp only [Mx] at this;unfold pd;split
  .simp only [Mx];omega
  .simp only [Mx];omega) 256 (by have:=a.po;rw [ϱ];omega) (by decide)
 grind
theorem yd_b (a:ItmB i) (r:AW) (k:Nat): -512000000000000000<=((i.pa.take k).map (yd r)).sum/\((i.pa.take k).map (yd r)).sum<=512000000000000000:=by
 have h:=JI (l:=i.pa.take k) (f:=yd r) (B:=2*Mx) (λx b=>by
  have:=a.n x (ωs b);simp only [Mx] at this
  unfold yd R5 R4;simp only [Mx];(repeat' split)<;>omega) 256 (by have:=a.pa;rw [ϱ];omega) (by decide)
 grind
theorem Te (i:AJ) (r:AW) (t:ItmB i):AM prog 103 [.d (Af i),.d (Bd r)] (AF (MC i r)):=by
 have y:=t.po;have z:=t.pa;refine Ax func103 Z Z ntmps103 Z Z Z λF c=>?_;refine AD (AE (V (Bi 1 Z Z Z Z Z Z Z) (V (Bi 2 Z Z Z Z Z Z Z) (AB Z Z (AC (AD (AE (AB Z Z ?_))))))));refine AC (AD (AD (AE (J (AL Z Gd Z Z Z) (J (AQ Z Z Z Ai Z) (J (FC Z Z Z) (AC (A7 Z (λs=>?_) (λs=>?_)))))))))
 .refine AD (AD (AE (AB Z Z (AC (A2 (BO (α:=Nat×Int) (λq=>⟨92,[(2,(.ptr 1 0 0)),(3,(.ptr 2 0 0)),(5,(.d (AF q.2))),(6,(.d (AF (q.1:Int))))],[(1,[.blk 93 [.d (AF i.id),.d (AF i.pr),.d (AF i.sq),.d (.sl none (i.po.map BV)),.d (.sl none (i.pa.map C8)),.d (.sl none (i.af.map AF))]]),(2,[.blk 98 [.d (AF r.k),.d (Aq r.acc.o),.d (AF r.acc.k),.d (Aq r.acc.a),.d (Aq r.f),.d (Aq r.t)]])]⟩) (λq=>q.1<=i.po.length/\q.2=((i.po.take q.1).map (pd r)).sum) (λq=>i.po.length - q.1) ((0,0)) (⟨ζ _,Z⟩) (AU c [1,2] Z Z ⟨Z,Z,Z,Z,trivial⟩) ?_))))));rintro ⟨k,n⟩ ⟨j,b⟩;dsimp only at j b⊢;have u:=pd_b t r k;refine AD ?_;refine AD (AE (goMv Z Z (J (AL Z OH Z Z Z) (J (AQ Z Z Z Fm Z) (J (BU Z underlying90 Z) (J (Az Z Z Z) (AC (A7 Z (λp=>?_) (λp=>?_)))))))))
  .have a:k<i.po.length:=BR p;refine AX (AD (A2 (AD (CD [[],[0],[],[0,1,2],[0,1,2,3],rg 5,[],[6],rg 8] mixed Z (Bt (AP [2] Z (AL Z OH Z Z Z) (Aj [19] Z Z (λ_=>A8 (AQ Z Z Z Fm Z)) (Ak 6 Z Z ?_))))))));refine AP [20,21] Z (BC (k) Z Z (Z) (A3 a) underlying90 Z IE Z) (AP [22] Z (V3 Z FQ Z Z Z) (AP [23] Z (Ca Z Z ZO Z) (AP [3] Z (AL Z EX Z Z Z) (Aj [25] Z Z (λ_=>A8 (BA Z Z ZO Z Z Z)) (Bk 8 Z Z Z (Ab 9 Z Z (J (Fe (la:=Na i.po[k].acc) (lb:=Na r.acc) (ds:=fv) (by kernel_rfl) (by kernel_rfl) (by kernel_rfl) Z Z Z Z (Dh _) (Dh _) (OD _ _) Z) (AC ⟨Z,?_⟩))))))));refine Bx (A7 Z (λo=>?_) (λo=>?_))
   .refine AE (goMv Z Z (J (AL Z OH Z Z Z) (J (AQ Z Z Z Fm Z) (goMv Z Z (J (BC (k) Z Z (Z) (A3 a) underlying90 Z IE Z) (J (NP Z LP Z Z Z) (J (CF Z Z Fn Z) ?_)))))));have l:=t.d _ (ϑ a);simp only [Mx] at l;refine J (Ah Z Z (Θ _ (by omega)) Z) (AB Z Z (AC (AE (goMv Z Z (J (Ah Z Z (AK (k+1) (by omega)) Z) (AB Z Z (AC ?_)))))));exact ⟨(k+1,_),⟨by show k+1<=_;omega,by show _=((i.po.take (k+1)).map (pd r)).sum;rw [Sq a,<-b];unfold pd;rw [ς o]⟩,by show i.po.length - (k+1)<i.po.length - k;omega,AU c [1,2] Z (Z) ⟨Z,Z,Z,Z,trivial⟩⟩
   .refine AX (AE (goMv Z Z (J (Ah Z Z (AK (k+1) (by omega)) Z) (AB Z Z (AC ?_)))));exact ⟨(k+1,_),⟨by show k+1<=_;omega,by show _=((i.po.take (k+1)).map (pd r)).sum;rw [Sq a,<-b];unfold pd;rw [η o];exact (Int.add_zero _).symm⟩,by show i.po.length - (k+1)<i.po.length - k;omega,AU c [1,2] Z (Z) ⟨Z,Z,Z,Z,trivial⟩⟩
  .refine Ar (AD (AE (goMv Z Z (AB Z Z (AC (AZ ?_))))));exact ⟨_,[],[],AY Z,Z,Z,A0 (by unfold MC;rw [ς s,b,θ (by have h:=p;omega)]),Z⟩
 .refine AX (AD (AD (AE (AB Z Z (AC (A2 (BO (α:=Nat×Int) (λq=>⟨92,[(2,(.ptr 1 0 0)),(3,(.ptr 2 0 0)),(5,(.d (AF q.2))),(7,(.d (AF (q.1:Int))))],[(1,[.blk 93 [.d (AF i.id),.d (AF i.pr),.d (AF i.sq),.d (.sl none (i.po.map BV)),.d (.sl none (i.pa.map C8)),.d (.sl none (i.af.map AF))]]),(2,[.blk 98 [.d (AF r.k),.d (Aq r.acc.o),.d (AF r.acc.k),.d (Aq r.acc.a),.d (Aq r.f),.d (Aq r.t)]])]⟩) (λq=>q.1<=i.pa.length/\q.2=((i.pa.take q.1).map (yd r)).sum) (λq=>i.pa.length - q.1) ((0,0)) (⟨ζ _,Z⟩) (AU c [1,2] Z Z ⟨Z,Z,Z,Z,trivial⟩) ?_)))))));rintro ⟨k,n⟩ ⟨j,b⟩;dsimp only at j b⊢;have u:=yd_b t r k;refine AD ?_;refine AD (AE (goMv Z Z (J (AL Z Cs Z Z Z) (J (AQ Z Z Z Jb Z) (J (BU Z underlying91 Z) (J (Az Z Z Z) (AC (A7 Z (λm=>?_) (λm=>?_)))))))))
  .have a:k<i.pa.length:=BR m;refine AX (AD (A2 (AD (AE ?_))));have l:=t.n _ (ϑ a);simp only [Mx] at l;refine J (AL Z Cs Z Z Z) (J (AQ Z Z Z Jb Z) (goMv Z Z (J (BC (k) Z Z (Z) (A3 a) underlying91 Z K0 Z) (J (Ca Z Z Q5 Z) (V (CA 3 ay Z Z Z Z) (V (B4 Z Z Z Z Z Z Z K0) (AC (AD ?_))))))));refine AD (AE (J (AL Z Ef Z Z Z) (J (AQ Z Z Z CL Z) (J (AL Z FA Z Z Z) (J (AQ Z Z Z CL Z) (J (KO Z Z Z) (goMv Z Z (CX 54 Z (λx=>?_) (λx=>?_)))))))))
   .refine AR Z Z Z (J (AL Z Gd Z Z Z) (AR Z Z Z (J (AQ Z Z Z Ai Z) (AR Z Z Z (J (FC Z Z Z) (AR Z Z Z (goMv Z Z (CX 58 Z (λw=>?_) (λw=>?_)))))))))
    .refine AI Z Z Z Z (AI Z Z Z Z (AI Z Z Z Z (AI Z Z Z Z (AI Z Z Z Z (AR Z Z Z (J (BY Z Z Z Z) (J (BY Z Z Z Z) ?_)))))));refine AC (Bz Z Z (AE (goMv Z Z (J (AL Z DT Z Z Z) (J (AQ Z Z Z Fn Z) (J (KL Z Z (Θ _ (by omega)) Z) (AB Z Z (AC ?_))))))));refine AD (AE (J (AL Z Ee Z Z Z) (J (AQ Z Z Z CL Z) (J (AL Z FA Z Z Z) (J (AQ Z Z Z CL Z) (J (KO Z Z Z) (goMv Z Z (CX 75 Z (λg=>?_) (λg=>?_)))))))))
     .refine AR Z Z Z (J (AL Z Gd Z Z Z) (AR Z Z Z (J (AQ Z Z Z Ai Z) (AR Z Z Z (J (FC Z Z Z) (AR Z Z Z (goMv Z Z (CX 79 Z (λf=>?_) (λf=>?_)))))))))
      .refine AI Z Z Z Z (AI Z Z Z Z (AI Z Z Z Z (AI Z Z Z Z ?_)));refine AI Z Z Z Z (AR Z Z Z (J (BY Z Z Z Z) (J (BY Z Z Z Z) (AC (Bz Z Z (AE (goMv Z Z (J (AL Z DT Z Z Z) ?_))))))));refine J (AQ Z Z Z Fn Z) (J (Ah Z Z (Θ _ (by omega)) Z) (AB Z Z (AC (AE (goMv Z Z (J (Ah Z Z (AK (k+1) (by omega)) Z) (AB Z Z (AC ?_))))))));exact ⟨(k+1,_),⟨by show k+1<=_;omega,by show _=((i.pa.take (k+1)).map (yd r)).sum;rw [Sq a,<-b];unfold yd R5 R4;(repeat' split)<;>first | omega | (exfalso;simp_all;done)⟩,by show i.pa.length - (k+1)<i.pa.length - k;omega,AU c [1,2] Z (Z) ⟨Z,Z,Z,Z,trivial⟩⟩
      .refine AR Z Z Z (J (AL Z Ef Z Z Z) (AR Z Z Z (J (AQ Z Z Z CL Z) (AR Z Z Z (J (AL Z Ez Z Z Z) ?_)))));refine AR Z Z Z (J (AQ Z Z Z CL Z) (AR Z Z Z (J (KO Z Z Z) (AR Z Z Z (J (Bf Z Z Z Z) (J (BY Z Z Z Z) (AC (A7 Z (λe=>?_) (λe=>?_)))))))))
       .refine AE (goMv Z Z (J (AL Z DT Z Z Z) ?_));refine J (AQ Z Z Z Fn Z) (J (Ah Z Z (Θ _ (by omega)) Z) (AB Z Z (AC (AE (goMv Z Z (J (Ah Z Z (AK (k+1) (by omega)) Z) (AB Z Z (AC ?_))))))));exact ⟨(k+1,_),⟨by show k+1<=_;omega,by show _=((i.pa.take (k+1)).map (yd r)).sum;rw [Sq a,<-b];unfold yd R5 R4;(repeat' split)<;>first | omega | (exfalso;simp_all;done)⟩,by show i.pa.length - (k+1)<i.pa.length - k;omega,AU c [1,2] Z (Z) ⟨Z,Z,Z,Z,trivial⟩⟩
       .refine AX (AE (goMv Z Z (J (Ah Z Z (AK (k+1) (by omega)) Z) (AB Z Z (AC ?_)))));exact ⟨(k+1,_),⟨by show k+1<=_;omega,by show _=((i.pa.take (k+1)).map (yd r)).sum;rw [Sq a,<-b];unfold yd R5 R4;(repeat' split)<;>first | omega | (exfalso;simp_all;done)⟩,by show i.pa.length - (k+1)<i.pa.length - k;omega,AU c [1,2] Z (Z) ⟨Z,Z,Z,Z,trivial⟩⟩
     .refine AI Z Z Z Z ?_;refine AI Z Z Z Z (AI Z Z Z Z (AI Z Z Z Z (KN Z Z Z (KN Z Z Z (KN Z Z Z (KN Z Z Z (KN Z Z Z (AI Z Z Z Z ?_))))))));refine J (Bf Z Z Z Z) (AC (Cu Z Z (AX (AE (goMv Z Z (J (Ah Z Z (AK (k+1) (by omega)) Z) (AB Z Z (AC ?_))))))));exact ⟨(k+1,_),⟨by show k+1<=_;omega,by show _=((i.pa.take (k+1)).map (yd r)).sum;rw [Sq a,<-b];unfold yd R5 R4;(repeat' split)<;>first | omega | (exfalso;simp_all;done)⟩,by show i.pa.length - (k+1)<i.pa.length - k;omega,AU c [1,2] Z (Z) ⟨Z,Z,Z,Z,trivial⟩⟩
    .refine AR Z Z Z (J (AL Z Ee Z Z Z) (AR Z Z Z (J (AQ Z Z Z CL Z) (AR Z Z Z (J (AL Z Ez Z Z Z) ?_)))));refine AR Z Z Z (J (AQ Z Z Z CL Z) (AR Z Z Z (J (KO Z Z Z) (AR Z Z Z (J (Bf Z Z Z Z) (J (BY Z Z Z Z) (AC (A7 Z (λv=>?_) (λv=>?_)))))))))
     .refine AE (goMv Z Z (J (AL Z DT Z Z Z) (J (AQ Z Z Z Fn Z) (J (KL Z Z (Θ _ (by omega)) Z) (AB Z Z (AC ?_))))));refine AD (AE (J (AL Z Ee Z Z Z) (J (AQ Z Z Z CL Z) (J (AL Z FA Z Z Z) (J (AQ Z Z Z CL Z) (J (KO Z Z Z) (goMv Z Z (CX 75 Z (λg=>?_) (λg=>?_)))))))))
      .refine AR Z Z Z (J (AL Z Gd Z Z Z) (AR Z Z Z (J (AQ Z Z Z Ai Z) (AR Z Z Z (J (FC Z Z Z) (AR Z Z Z (goMv Z Z (CX 79 Z (λf=>?_) (λf=>?_)))))))))
       .refine AI Z Z Z Z (AI Z Z Z Z (AI Z Z Z Z (AI Z Z Z Z ?_)));refine AI Z Z Z Z (AR Z Z Z (J (BY Z Z Z Z) (J (BY Z Z Z Z) (AC (Bz Z Z (AE (goMv Z Z (J (AL Z DT Z Z Z) ?_))))))));refine J (AQ Z Z Z Fn Z) (J (Ah Z Z (Θ _ (by omega)) Z) (AB Z Z (AC (AE (goMv Z Z (J (Ah Z Z (AK (k+1) (by omega)) Z) (AB Z Z (AC ?_))))))));exact ⟨(k+1,_),⟨by show k+1<=_;omega,by show _=((i.pa.take (k+1)).map (yd r)).sum;rw [Sq a,<-b];unfold yd R5 R4;(repeat' split)<;>first | omega | (exfalso;simp_all;done)⟩,by show i.pa.length - (k+1)<i.pa.length - k;omega,AU c [1,2] Z (Z) ⟨Z,Z,Z,Z,trivial⟩⟩
       .refine AR Z Z Z (J (AL Z Ef Z Z Z) (AR Z Z Z (J (AQ Z Z Z CL Z) (AR Z Z Z (J (AL Z Ez Z Z Z) ?_)))));refine AR Z Z Z (J (AQ Z Z Z CL Z) (AR Z Z Z (J (KO Z Z Z) (AR Z Z Z (J (Bf Z Z Z Z) (J (BY Z Z Z Z) (AC (A7 Z (λe=>?_) (λe=>?_)))))))))
        .refine AE (goMv Z Z (J (AL Z DT Z Z Z) ?_));refine J (AQ Z Z Z Fn Z) (J (Ah Z Z (Θ _ (by omega)) Z) (AB Z Z (AC (AE (goMv Z Z (J (Ah Z Z (AK (k+1) (by omega)) Z) (AB Z Z (AC ?_))))))));exact ⟨(k+1,_),⟨by show k+1<=_;omega,by show _=((i.pa.take (k+1)).map (yd r)).sum;rw [Sq a,<-b];unfold yd R5 R4;(repeat' split)<;>first | omega | (exfalso;simp_all;done)⟩,by show i.pa.length - (k+1)<i.pa.length - k;omega,AU c [1,2] Z (Z) ⟨Z,Z,Z,Z,trivial⟩⟩
        .refine AX (AE (goMv Z Z (J (Ah Z Z (AK (k+1) (by omega)) Z) (AB Z Z (AC ?_)))));exact ⟨(k+1,_),⟨by show k+1<=_;omega,by show _=((i.pa.take (k+1)).map (yd r)).sum;rw [Sq a,<-b];unfold yd R5 R4;(repeat' split)<;>first | omega | (exfalso;simp_all;done)⟩,by show i.pa.length - (k+1)<i.pa.length - k;omega,AU c [1,2] Z (Z) ⟨Z,Z,Z,Z,trivial⟩⟩
      .refine AI Z Z Z Z ?_;refine AI Z Z Z Z (AI Z Z Z Z (AI Z Z Z Z (KN Z Z Z (KN Z Z Z (KN Z Z Z (KN Z Z Z (KN Z Z Z (AI Z Z Z Z ?_))))))));refine J (Bf Z Z Z Z) (AC (Cu Z Z (AX (AE (goMv Z Z (J (Ah Z Z (AK (k+1) (by omega)) Z) (AB Z Z (AC ?_))))))));exact ⟨(k+1,_),⟨by show k+1<=_;omega,by show _=((i.pa.take (k+1)).map (yd r)).sum;rw [Sq a,<-b];unfold yd R5 R4;(repeat' split)<;>first | omega | (exfalso;simp_all;done)⟩,by show i.pa.length - (k+1)<i.pa.length - k;omega,AU c [1,2] Z (Z) ⟨Z,Z,Z,Z,trivial⟩⟩
     .refine AX ?_;refine AD (AE (J (AL Z Ee Z Z Z) (J (AQ Z Z Z CL Z) (J (AL Z FA Z Z Z) (J (AQ Z Z Z CL Z) (J (KO Z Z Z) (goMv Z Z (CX 75 Z (λg=>?_) (λg=>?_)))))))))
      .refine AR Z Z Z (J (AL Z Gd Z Z Z) (AR Z Z Z (J (AQ Z Z Z Ai Z) (AR Z Z Z (J (FC Z Z Z) (AR Z Z Z (goMv Z Z (CX 79 Z (λf=>?_) (λf=>?_)))))))))
       .refine AI Z Z Z Z (AI Z Z Z Z (AI Z Z Z Z (AI Z Z Z Z ?_)));refine AI Z Z Z Z (AR Z Z Z (J (BY Z Z Z Z) (J (BY Z Z Z Z) (AC (Bz Z Z (AE (goMv Z Z (J (AL Z DT Z Z Z) ?_))))))));refine J (AQ Z Z Z Fn Z) (J (Ah Z Z (Θ _ (by omega)) Z) (AB Z Z (AC (AE (goMv Z Z (J (Ah Z Z (AK (k+1) (by omega)) Z) (AB Z Z (AC ?_))))))));exact ⟨(k+1,_),⟨by show k+1<=_;omega,by show _=((i.pa.take (k+1)).map (yd r)).sum;rw [Sq a,<-b];unfold yd R5 R4;(repeat' split)<;>first | omega | (exfalso;simp_all;done)⟩,by show i.pa.length - (k+1)<i.pa.length - k;omega,AU c [1,2] Z (Z) ⟨Z,Z,Z,Z,trivial⟩⟩
       .refine AR Z Z Z (J (AL Z Ef Z Z Z) (AR Z Z Z (J (AQ Z Z Z CL Z) (AR Z Z Z (J (AL Z Ez Z Z Z) ?_)))));refine AR Z Z Z (J (AQ Z Z Z CL Z) (AR Z Z Z (J (KO Z Z Z) (AR Z Z Z (J (Bf Z Z Z Z) (J (BY Z Z Z Z) (AC (A7 Z (λe=>?_) (λe=>?_)))))))))
        .refine AE (goMv Z Z (J (AL Z DT Z Z Z) ?_));refine J (AQ Z Z Z Fn Z) (J (Ah Z Z (Θ _ (by omega)) Z) (AB Z Z (AC (AE (goMv Z Z (J (Ah Z Z (AK (k+1) (by omega)) Z) (AB Z Z (AC ?_))))))));exact ⟨(k+1,_),⟨by show k+1<=_;omega,by show _=((i.pa.take (k+1)).map (yd r)).sum;rw [Sq a,<-b];unfold yd R5 R4;(repeat' split)<;>first | omega | (exfalso;simp_all;done)⟩,by show i.pa.length - (k+1)<i.pa.length - k;omega,AU c [1,2] Z (Z) ⟨Z,Z,Z,Z,trivial⟩⟩
        .refine AX (AE (goMv Z Z (J (Ah Z Z (AK (k+1) (by omega)) Z) (AB Z Z (AC ?_)))));exact ⟨(k+1,_),⟨by show k+1<=_;omega,by show _=((i.pa.take (k+1)).map (yd r)).sum;rw [Sq a,<-b];unfold yd R5 R4;(repeat' split)<;>first | omega | (exfalso;simp_all;done)⟩,by show i.pa.length - (k+1)<i.pa.length - k;omega,AU c [1,2] Z (Z) ⟨Z,Z,Z,Z,trivial⟩⟩
      .refine AI Z Z Z Z ?_;refine AI Z Z Z Z (AI Z Z Z Z (AI Z Z Z Z (KN Z Z Z (KN Z Z Z (KN Z Z Z (KN Z Z Z (KN Z Z Z (AI Z Z Z Z ?_))))))));refine J (Bf Z Z Z Z) (AC (Cu Z Z (AX (AE (goMv Z Z (J (Ah Z Z (AK (k+1) (by omega)) Z) (AB Z Z (AC ?_))))))));exact ⟨(k+1,_),⟨by show k+1<=_;omega,by show _=((i.pa.take (k+1)).map (yd r)).sum;rw [Sq a,<-b];unfold yd R5 R4;(repeat' split)<;>first | omega | (exfalso;simp_all;done)⟩,by show i.pa.length - (k+1)<i.pa.length - k;omega,AU c [1,2] Z (Z) ⟨Z,Z,Z,Z,trivial⟩⟩
   .refine AI Z Z Z Z (AI Z Z Z Z (AI Z Z Z Z (AI Z Z Z Z (KN Z Z Z ?_))));refine KN Z Z Z (KN Z Z Z (KN Z Z Z (KN Z Z Z (AI Z Z Z Z (J (Bf Z Z Z Z) (AC (Cu Z Z (AX ?_))))))));refine AD (AE (J (AL Z Ee Z Z Z) (J (AQ Z Z Z CL Z) (J (AL Z FA Z Z Z) (J (AQ Z Z Z CL Z) (J (KO Z Z Z) (goMv Z Z (CX 75 Z (λg=>?_) (λg=>?_)))))))))
    .refine AR Z Z Z (J (AL Z Gd Z Z Z) (AR Z Z Z (J (AQ Z Z Z Ai Z) (AR Z Z Z (J (FC Z Z Z) (AR Z Z Z (goMv Z Z (CX 79 Z (λf=>?_) (λf=>?_)))))))))
     .refine AI Z Z Z Z (AI Z Z Z Z (AI Z Z Z Z (AI Z Z Z Z ?_)));refine AI Z Z Z Z (AR Z Z Z (J (BY Z Z Z Z) (J (BY Z Z Z Z) (AC (Bz Z Z (AE (goMv Z Z (J (AL Z DT Z Z Z) ?_))))))));refine J (AQ Z Z Z Fn Z) (J (Ah Z Z (Θ _ (by omega)) Z) (AB Z Z (AC (AE (goMv Z Z (J (Ah Z Z (AK (k+1) (by omega)) Z) (AB Z Z (AC ?_))))))));exact ⟨(k+1,_),⟨by show k+1<=_;omega,by show _=((i.pa.take (k+1)).map (yd r)).sum;rw [Sq a,<-b];unfold yd R5 R4;(repeat' split)<;>first | omega | (exfalso;simp_all;done)⟩,by show i.pa.length - (k+1)<i.pa.length - k;omega,AU c [1,2] Z (Z) ⟨Z,Z,Z,Z,trivial⟩⟩
     .refine AR Z Z Z (J (AL Z Ef Z Z Z) (AR Z Z Z (J (AQ Z Z Z CL Z) (AR Z Z Z (J (AL Z Ez Z Z Z) ?_)))));refine AR Z Z Z (J (AQ Z Z Z CL Z) (AR Z Z Z (J (KO Z Z Z) (AR Z Z Z (J (Bf Z Z Z Z) (J (BY Z Z Z Z) (AC (A7 Z (λe=>?_) (λe=>?_)))))))))
      .refine AE (goMv Z Z (J (AL Z DT Z Z Z) ?_));refine J (AQ Z Z Z Fn Z) (J (Ah Z Z (Θ _ (by omega)) Z) (AB Z Z (AC (AE (goMv Z Z (J (Ah Z Z (AK (k+1) (by omega)) Z) (AB Z Z (AC ?_))))))));exact ⟨(k+1,_),⟨by show k+1<=_;omega,by show _=((i.pa.take (k+1)).map (yd r)).sum;rw [Sq a,<-b];unfold yd R5 R4;(repeat' split)<;>first | omega | (exfalso;simp_all;done)⟩,by show i.pa.length - (k+1)<i.pa.length - k;omega,AU c [1,2] Z (Z) ⟨Z,Z,Z,Z,trivial⟩⟩
      .refine AX (AE (goMv Z Z (J (Ah Z Z (AK (k+1) (by omega)) Z) (AB Z Z (AC ?_)))));exact ⟨(k+1,_),⟨by show k+1<=_;omega,by show _=((i.pa.take (k+1)).map (yd r)).sum;rw [Sq a,<-b];unfold yd R5 R4;(repeat' split)<;>first | omega | (exfalso;simp_all;done)⟩,by show i.pa.length - (k+1)<i.pa.length - k;omega,AU c [1,2] Z (Z) ⟨Z,Z,Z,Z,trivial⟩⟩
    .refine AI Z Z Z Z ?_;refine AI Z Z Z Z (AI Z Z Z Z (AI Z Z Z Z (KN Z Z Z (KN Z Z Z (KN Z Z Z (KN Z Z Z (KN Z Z Z (AI Z Z Z Z ?_))))))));refine J (Bf Z Z Z Z) (AC (Cu Z Z (AX (AE (goMv Z Z (J (Ah Z Z (AK (k+1) (by omega)) Z) (AB Z Z (AC ?_))))))));exact ⟨(k+1,_),⟨by show k+1<=_;omega,by show _=((i.pa.take (k+1)).map (yd r)).sum;rw [Sq a,<-b];unfold yd R5 R4;(repeat' split)<;>first | omega | (exfalso;simp_all;done)⟩,by show i.pa.length - (k+1)<i.pa.length - k;omega,AU c [1,2] Z (Z) ⟨Z,Z,Z,Z,trivial⟩⟩
  .refine Ar (AD (AE (goMv Z Z (AB Z Z (AC (AZ ?_))))));exact ⟨_,[],[],AY Z,Z,Z,A0 (by unfold MC;rw [η s,b,θ (by have h:=m;omega)]),Z⟩
def Ew (i:AJ):Int:=BQ [Fj i,Kh i,N9 i]
theorem Da (h:e=Fj i) (a:e≠0):e=Ew i:=by grind [Ew,BQ]
theorem Fl (a:Fj i=0) (h:e=Kh i) (b:e≠0):e=Ew i:=by grind [Ew,BQ]
theorem H9 (b:Fj i=0) (a:Kh i=0) (h:e=N9 i):e=Ew i:=by grind [Ew,BQ]
theorem parts_p (i:AJ) (G:i.po.length<=1000) (E:i.pa.length<=1000) (D:i.af.length<=1000):AM prog 101 [.d (Af i)] (AF (Ew i)):=by
 refine Ax func101 Z Z ntmps101 Z Z Z λF n=>(AD (AE (V (Bi 1 Z Z Z Z Z Z Z) ?_)));refine AB Z Z (AC (AD (AD (AE (AB Z Z (AC (A2 (BO (α:=Nat) (λk=>⟨121,[(1,(.ptr 1 0 0)),(3,(.d (AF (k:Int))))],[(1,[.blk 93 [.d (AF i.id),.d (AF i.pr),.d (AF i.sq),.d (.sl none (i.po.map BV)),.d (.sl none (i.pa.map C8)),.d (.sl none (i.af.map AF))]])]⟩) (λk=>k<=i.po.length/\Fj i=BQ ((i.po.drop k).map I5)) (λk=>i.po.length - k) (0) (⟨ζ _,Z⟩) (AU n [1] Z Z ⟨Z,Z,trivial⟩) ?_))))))));rintro k ⟨o,g⟩;refine AD ?_;refine AD (AE (goMv Z Z (J (AL Z OH Z Z Z) (J (AQ Z Z Z Fm Z) (J (BU Z underlying90 Z) (J (Az Z Z Z) (AC (A7 Z (λm=>?_) (λm=>?_)))))))))
 .have a:k<i.po.length:=BR m;refine AX (AD (A2 (AD (AE ?_))));have c:=Zcx a g;refine J (AL Z OH Z Z Z) (J (AQ Z Z Z Fm Z) (goMv Z Z (J (BC (k) Z Z (Z) (A3 a) underlying90 Z IE Z) (J (Ca Z Z cE Z) (V (CA 2 zl192 Z Z Z Z) (V (B4 Z Z Z Z Z Z Z IE) (AC ?_)))))));refine A2 (AD (AE (J (AL Z FQ Z Z Z) (J (AL Z SK Z Z Z) (J (AQ Z Z Z CL Z) (J (KO Z Z Z) (goMv Z Z (CX 25 Z (λB=>?_) (λB=>?_)))))))))
  .refine AI Z Z Z Z (AI Z Z Z Z (AI Z Z Z Z (AI Z Z Z Z ?_)));refine J (BY Z Z Z Z) (AB Z Z (AC (Bz Z Z (AD (AE (AB Z Z (AC (AZ ?_))))))));exact ⟨_,[],[],AY Z,Z,Z,A0 (Da (c.2 6 (by unfold I5;rw [ς (by simp_all)]) (by decide)) (by decide)),Z⟩
  .refine AR Z Z Z (J (AL Z FQ Z Z Z) (AR Z Z Z ?_));refine J (AL Z M7 Z Z Z) (AR Z Z Z (J (AQ Z Z Z CL Z) (AR Z Z Z (J (KO Z Z Z) (J (Bf Z Z Z Z) (AB Z Z (AC (A7 Z (λC=>?_) (λC=>?_)))))))))
   .refine AD (AE (AB Z Z (AC (AZ ?_))));exact ⟨_,[],[],AY Z,Z,Z,A0 (Da (c.2 6 (by unfold I5;rw [ς (by simp_all)]) (by decide)) (by decide)),Z⟩
   .refine AD (AE (J (AL Z FQ Z Z Z) (J (AL Z M8 Z Z Z) (J (AQ Z Z Z Ai Z) (J (Az Z Z Z) (goMv Z Z (CX 36 Z (λz=>?_) (λz=>?_))))))))
    .refine AI Z Z Z Z (AI Z Z Z Z (AI Z Z Z Z (AI Z Z Z Z ?_)));refine J (BY Z Z Z Z) (AB Z Z (AC (Bz Z Z (AD (AE (AB Z Z (AC (AZ ?_))))))));exact ⟨_,[],[],AY Z,Z,Z,A0 (Da (c.2 11 (by unfold I5;rw [η (by simp_all),ς (by omega)]) (by decide)) (by decide)),Z⟩
    .refine AR Z Z Z (J (AL Z FQ Z Z Z) (AR Z Z Z ?_));refine J (AL Z M8 Z Z Z) (AR Z Z Z (J (AQ Z Z Z Ai Z) (AR Z Z Z (J (Gi Z Z Z) (J (Bf Z Z Z Z) (AB Z Z (AC (A7 Z (λA=>?_) (λA=>?_)))))))))
     .refine AD (AE (AB Z Z (AC (AZ ?_))));exact ⟨_,[],[],AY Z,Z,Z,A0 (Da (c.2 11 (by unfold I5;rw [η (by simp_all),ς (by omega)]) (by decide)) (by decide)),Z⟩
     .refine AD (AE (J (AL Z LP Z Z Z) (J (AQ Z Z Z Fn Z) (J (Az Z Z Z) (goMv Z Z (CX 46 Z (λx=>?_) (λx=>?_)))))))
      .refine AI Z Z Z Z (AI Z Z Z Z (AI Z Z Z Z ?_));refine J (BY Z Z Z Z) (AB Z Z (AC (Bz Z Z (AD (AE (AB Z Z (AC (AZ ?_))))))));exact ⟨_,[],[],AY Z,Z,Z,A0 (Da (c.2 12 (by unfold I5;rw [η (by simp_all),η (by omega),ς (by simp only [Mx];omega)]) (by decide)) (by decide)),Z⟩
      .refine AR Z Z Z ?_;refine J (AL Z LP Z Z Z) (AR Z Z Z (J (AQ Z Z Z Fn Z) (AR Z Z Z (J (Gi Z Z Z) (J (Bf Z Z Z Z) (AB Z Z (AC (A7 Z (λy=>?_) (λy=>?_)))))))))
       .refine AD (AE (AB Z Z (AC (AZ ?_))));exact ⟨_,[],[],AY Z,Z,Z,A0 (Da (c.2 12 (by unfold I5;rw [η (by simp_all),η (by omega),ς (by simp only [Mx];omega)]) (by decide)) (by decide)),Z⟩
       .refine AX (AE (goMv Z Z (J (Ah Z Z (AK (k+1) (by omega)) Z) (AB Z Z (AC ?_)))));exact ⟨k+1,⟨by show k+1<=_;omega,c.1 (by unfold I5;rw [η (by simp_all),η (by omega),η (by simp only [Mx];omega)])⟩,by show i.po.length - (k+1)<i.po.length - k;omega,AU n [1] Z (Z) ⟨Z,Z,trivial⟩⟩
 .refine Ar (AD (AD ?_));have b:Fj i=0:=by rw [g,DP (by have h:=m;omega)]
  refine AE (AB Z Z (AC (A2 (BO (α:=Nat) (λk=>⟨121,[(1,(.ptr 1 0 0)),(5,(.d (AF (k:Int))))],[(1,[.blk 93 [.d (AF i.id),.d (AF i.pr),.d (AF i.sq),.d (.sl none (i.po.map BV)),.d (.sl none (i.pa.map C8)),.d (.sl none (i.af.map AF))]])]⟩) (λk=>k<=i.pa.length/\Kh i=BQ ((i.pa.drop k).map J7)) (λk=>i.pa.length - k) (0) (⟨ζ _,Z⟩) (AU n [1] Z Z ⟨Z,Z,trivial⟩) ?_))));rintro k ⟨o,g⟩;refine AD ?_;refine AD (AE (goMv Z Z (J (AL Z Cs Z Z Z) (J (AQ Z Z Z Jb Z) (J (BU Z underlying91 Z) (J (Az Z Z Z) (AC (A7 Z (λl=>?_) (λl=>?_)))))))))
  .have a:k<i.pa.length:=BR l;refine AX (AD (A2 (AD (AE ?_))));have c:=Zcx a g;refine J (AL Z Cs Z Z Z) (J (AQ Z Z Z Jb Z) (goMv Z Z (J (BC (k) Z Z (Z) (A3 a) underlying91 Z K0 Z) (J (Ca Z Z Q5 Z) (V (CA 3 ay Z Z Z Z) (V (B4 Z Z Z Z Z Z Z K0) ?_))))));refine AC (A2 (AD (AE (J (AL Z Ef Z Z Z) (J (AQ Z Z Z CL Z) (J (KO Z Z Z) (goMv Z Z (CX 67 Z (λv=>?_) (λv=>?_)))))))))
   .refine AI Z Z Z Z (AI Z Z Z Z (AI Z Z Z Z ?_));refine J (BY Z Z Z Z) (AB Z Z (AC (Bz Z Z (AD (AE (AB Z Z (AC (AZ ?_))))))));exact ⟨_,[],[],AY Z,Z,Z,A0 (Fl b (c.2 6 (by unfold J7;rw [ς (by simp_all)]) (by decide)) (by decide)),Z⟩
   .refine AR Z Z Z ?_;refine J (AL Z Ee Z Z Z) (AR Z Z Z (J (AQ Z Z Z CL Z) (AR Z Z Z (J (KO Z Z Z) (J (Bf Z Z Z Z) (AB Z Z (AC (A7 Z (λw=>?_) (λw=>?_)))))))))
    .refine AD (AE (AB Z Z (AC (AZ ?_))));exact ⟨_,[],[],AY Z,Z,Z,A0 (Fl b (c.2 6 (by unfold J7;rw [ς (by simp_all)]) (by decide)) (by decide)),Z⟩
    .refine AD ?_;refine AE (J (AL Z Ef Z Z Z) (J (AQ Z Z Z CL Z) (J (AL Z Ee Z Z Z) (J (AQ Z Z Z CL Z) (J (KO Z Z Z) (AB Z Z (AC (A7 Z (λu=>?_) (λu=>?_)))))))))
     .refine AD (AE (AB Z Z (AC (AZ ?_))));exact ⟨_,[],[],AY Z,Z,Z,A0 (Fl b (c.2 7 (by unfold J7;rw [η (by simp_all),ς (by simp_all)]) (by decide)) (by decide)),Z⟩
     .refine AD (AE (J (AL Z DT Z Z Z) (J (AQ Z Z Z Fn Z) (J (Az Z Z Z) (goMv Z Z (CX 82 Z (λs=>?_) (λs=>?_)))))))
      .refine AI Z Z Z Z (AI Z Z Z Z (AI Z Z Z Z ?_));refine J (BY Z Z Z Z) (AB Z Z (AC (Bz Z Z (AD (AE (AB Z Z (AC (AZ ?_))))))));exact ⟨_,[],[],AY Z,Z,Z,A0 (Fl b (c.2 2 (by unfold J7;rw [η (by simp_all),η (by simp_all),ς (by simp only [Mx];omega)]) (by decide)) (by decide)),Z⟩
      .refine AR Z Z Z ?_;refine J (AL Z DT Z Z Z) (AR Z Z Z (J (AQ Z Z Z Fn Z) (AR Z Z Z (J (Gi Z Z Z) (J (Bf Z Z Z Z) (AB Z Z (AC (A7 Z (λt=>?_) (λt=>?_)))))))))
       .refine AD (AE (AB Z Z (AC (AZ ?_))));exact ⟨_,[],[],AY Z,Z,Z,A0 (Fl b (c.2 2 (by unfold J7;rw [η (by simp_all),η (by simp_all),ς (by simp only [Mx];omega)]) (by decide)) (by decide)),Z⟩
       .refine AX (AE (goMv Z Z (J (Ah Z Z (AK (k+1) (by omega)) Z) (AB Z Z (AC ?_)))));exact ⟨k+1,⟨by show k+1<=_;omega,c.1 (by unfold J7;rw [η (by simp_all),η (by simp_all),η (by simp only [Mx];omega)])⟩,by show i.pa.length - (k+1)<i.pa.length - k;omega,AU n [1] Z (Z) ⟨Z,Z,trivial⟩⟩
  .refine Ar (AD (AD ?_));have e:Kh i=0:=by rw [g,DP (by have h:=l;omega)]
   refine AE (AB Z Z (AC (A2 (BO (α:=Nat) (λk=>⟨121,[(1,(.ptr 1 0 0)),(7,(.d (AF (k:Int))))],[(1,[.blk 93 [.d (AF i.id),.d (AF i.pr),.d (AF i.sq),.d (.sl none (i.po.map BV)),.d (.sl none (i.pa.map C8)),.d (.sl none (i.af.map AF))]])]⟩) (λk=>k<=i.af.length/\N9 i=BQ (((List.range i.af.length).drop k).map (Mo i.id i.af))) (λk=>i.af.length - k) (0) (⟨ζ _,Z⟩) (AU n [1] Z Z ⟨Z,Z,trivial⟩) ?_))));rintro k ⟨o,g⟩;refine AD ?_;refine AD (AE (goMv Z Z (J (AL Z QP Z Z Z) (J (AQ Z Z Z BF Z) (J (BU Z underlying28 Z) (J (Az Z Z Z) (AC (A7 Z (λj=>?_) (λj=>?_)))))))))
   .have a:k<i.af.length:=BR j;refine AX (AD (A2 (AD (AD (AE ?_)))));have c:=Zcw a g;have f:i.af.getD k 0=i.af[k]:=by rw [Φ,ω a];rfl
    refine J (AL Z QP Z Z Z) (J (AQ Z Z Z BF Z) (goMv Z Z (J (BC (k) Z Z (Z) (A3 a) underlying28 Z BD Z) (J (CF Z Z Ai Z) (J (Aw (I4 i.af[k]) Z Z) (J (Je Z Z) (AC (A7 Z (λr=>?_) (λr=>?_)))))))))
    .refine AD (AE (AB Z Z (AC (AZ ?_))));exact ⟨_,[],[],AY Z,Z,Z,A0 (H9 b e (c.2 2 (by unfold Mo;rw [f,ς (by simp_all)]) (by decide))),Z⟩
    .refine AX (AD (CD [[],[0],[],[0,1,2],[0,1,2,3],[],[5],rg 7,rg 8,rg 9,rg 10,rg 9,rg 12,rg 9,[0,1,2,3,4,5,6,7,8,13],rg 9,[0,1,2,3,4,5,6,7,8,13,14,15],[0,1,2,3,4,5,6,7,8,13,14,15,16],rg 18,rg 19] mixed Z (Bt (AP [1] Z (AL Z QP Z Z Z) (Aj [101] Z Z (λ_=>A8 (AQ Z Z Z BF Z)) ?_)))));refine Ak 7 Z Z (AP [102,103] Z (BC (k) Z Z (Z) (A3 a) underlying28 Z BD Z) (AP [104] Z (CF Z Z Ai Z) (AP [1] Z (AL Z Fv Z Z Z) (Aj [106] Z Z (λ_=>A8 (AQ Z Z Z Ai Z)) (Bk 7 Z Z Z (Ab 8 Z Z (J (FC Z Z Z) (AC ⟨Z,?_⟩))))))));refine Ab 9 Z Z (goMv Z Z (CX 109 Z (λq=>?_) (λq=>?_)))
     .refine AC ⟨Z,?_⟩;refine Bt (As [1,109] [] Z Z (λ_=>EH Z Z Z Z) (As [110,109] [] Z Z (λ_=>EH Z Z Z Z) (As [7,109] [] Z Z (λ_=>EH Z Z Z Z) (As [111,112,109] [] Z Z (λ_=>EH Z Z Z Z) ?_))));refine As [1,109] [] Z Z (λ_=>EH Z Z Z Z) (As [114,109] [] Z Z (λ_=>EH Z Z Z Z) (As [7,109] [] Z Z (λ_=>EH Z Z Z Z) (As [115,116,109] [] Z Z (λ_=>EH Z Z Z Z) (As [117,109] [] Z Z (λ_=>EH Z Z Z Z) (Bk 18 Z Z Z (Ab 19 Z Z (AI Z Z Z Z (AC ⟨Z,?_⟩))))))));refine Ab 20 Z Z (J (BY Z Z Z Z) (AC ⟨Z,?_⟩));refine Bx (Bz Z Z (AD (AE (AB Z Z (AC (AZ ?_))))));exact ⟨_,[],[],AY Z,Z,Z,A0 (H9 b e (c.2 7 (by unfold Mo;rw [f,η (by simp_all),ς (by simp_all)]) (by decide))),Z⟩
     .refine AC ⟨Z,?_⟩;refine Bt (As [1,109] [] Z Z (λ_=>Ct Z Z Z (AL Z QP Z Z Z)) (Aj [110,109] Z Z (λ_=>Ct Z Z Z (AQ Z Z Z BF Z)) (As [7,109] [] Z Z (λ_=>Ct Z Z Z (Pv Z Z)) (As [111,112,109] [] Z Z (λ_=>Ct Z Z Z (Zch (i.af) (k) Z Z Z (Z) (by omega) underlying28 BD (λ_=>rfl) Z)) (As [1,109] [] Z Z (λ_=>Ct Z Z Z (AL Z QP Z Z Z)) ?_)))));refine Aj [114,109] Z Z (λ_=>Ct Z Z Z (AQ Z Z Z BF Z)) (As [7,109] [] Z Z (λ_=>Ct Z Z Z (Pv Z Z)) (As [115,116,109] [] Z Z (λ_=>Ct Z Z Z (BC (k) Z Z (Z) (A3 a) underlying28 Z BD Z)) (As [117,109] [] Z Z (λ_=>Ct Z Z Z (CF Z Z Ai Z)) (Bk 18 Z Z Z (Ab 19 Z Z (AR Z Z Z (J (Aw (has_p (i.af.take k) i.af[k] (by rw [ϱ];omega)) Z Z) (AC ⟨Z,?_⟩))))))));refine Ab 20 Z Z (J (Bf Z Z Z Z) (AC ⟨Z,?_⟩));refine Bx (A7 Z (λp=>?_) (λp=>?_))
      .refine AD (AE (AB Z Z (AC (AZ ?_))));exact ⟨_,[],[],AY Z,Z,Z,A0 (H9 b e (c.2 7 (by unfold Mo;rw [f,η (by simp_all),ς (by simp_all)]) (by decide))),Z⟩
      .refine AX (AE (goMv Z Z (J (Ah Z Z (AK (k+1) (by omega)) Z) (AB Z Z (AC ?_)))));exact ⟨k+1,⟨by show k+1<=_;omega,c.1 (by unfold Mo;rw [f,η (by simp_all),η (by simp_all)])⟩,by show i.af.length - (k+1)<i.af.length - k;omega,AU n [1] Z (Z) ⟨Z,Z,trivial⟩⟩
   .refine Ar (AD (AE (AB Z Z (AC (AZ ?_)))));exact ⟨_,[],[],AY Z,Z,Z,A0 (H9 b e (by rw [g,χp (by have h:=j;simp only [ωo];omega)];rfl)),Z⟩
theorem touL4 (c:List (AW×Int)) (p:Jl):touL (c++Mg p)=Ce (Ce (Ce (Ce (touL c) (CK p.f p.t)) (CK p.t p.f)) (DL p.f)) (DL p.t):=by grind [Mg,touL]
theorem touLP {l:List EC} (a:k<l.length):touL (EB (l.take (k+1)))=Ce (touL (EB (l.take k))) (Gx l[k]):=by rw [RO a,JG]
theorem touLY {c:List (AW×Int)} {l:List Jl} (a:k<l.length):touL (c++HS (l.take (k+1)))=Ce (Ce (Ce (Ce (touL (c++HS (l.take k))) (CK l[k].f l[k].t)) (CK l[k].t l[k].f)) (DL l[k].f)) (DL l[k].t):=by rw [RN a,<-ψi,touL4]
theorem Ys (i:AJ) (x:i.po.length<=1000) (w:i.pa.length<=1000):AM prog 102 [.d (Af i)] (.sl none ((touL (ctr i)).map Bd)):=by
 refine Ax func102 Z Z ntmps102 Z Z Z λF n=>(AD (AE ?_));refine V (Bi 1 Z Z Z Z Z Z Z) (AB Z Z (AC (AD (AE (AB Z Z (AC (AD (AD ?_))))))));refine VX 3 Z ?_;refine AE (AB Z Z (AC (A2 (BO (α:=Nat×List AW) (λq=>⟨60,[(1,(.ptr 1 0 0)),(3,(.d (.sl none (q.2.map Bd)))),(4,(.d (AF (q.1:Int))))],[(1,[.blk 93 [.d (AF i.id),.d (AF i.pr),.d (AF i.sq),.d (.sl none (i.po.map BV)),.d (.sl none (i.pa.map C8)),.d (.sl none (i.af.map AF))]])]⟩) (λq=>q.1<=i.po.length/\q.2=touL (EB (i.po.take q.1))) (λq=>i.po.length - q.1) ((0,[])) (⟨ζ _,Z⟩) (AU n [1] Z Z ⟨Z,Z,Z,trivial⟩) ?_))));rintro ⟨k,L⟩ ⟨p,l⟩;dsimp only at p l⊢;refine AD ?_;refine AD (AE (goMv Z Z (J (AL Z OH Z Z Z) (J (AQ Z Z Z Fm Z) (J (BU Z underlying90 Z) (J (Az Z Z Z) (AC (A7 Z (λb=>?_) (λb=>?_)))))))))
 .have g:k<i.po.length:=BR b;refine AX (AD (A2 (AE ?_)));have e:L.length<=1000:=by rw [l];have:=OO (EB (i.po.take k));simp only [EB,χ,ϱ] at this;simp only [EB];omega
  refine goMv Z Z (J (AL Z OH Z Z Z) (J (AQ Z Z Z Fm Z) (goMv Z Z (J (BC (k) Z Z (Z) (A3 g) underlying90 Z IE Z) (J (V3 Z FQ Z Z Z) (J (Ca Z Z ZO Z) ?_))))));refine J (EI St Z1 Z Z Z) (J (Aw (Ij L (Gx i.po[k]) (by omega)) Z Z) (AB Z Z (AC (AE (goMv Z Z (J (Ah Z Z (AK (k+1) (by omega)) Z) (AB Z Z (AC ?_))))))));exact ⟨(k+1,_),⟨by show k+1<=_;omega,by show _=touL (EB (i.po.take (k+1)));rw [touLP g,<-l]⟩,by show i.po.length - (k+1)<i.po.length - k;omega,AU n [1] Z (Z) ⟨Z,Z,Z,trivial⟩⟩
 .refine Ar (AD (AD ?_));have r:L=touL (EB i.po++HS (i.pa.take 0)):=by rw [l,θ (by have h:=b;omega)];simp [HS]
  refine AE (AB Z Z (AC (A2 (BO (α:=Nat×List AW) (λq=>⟨60,[(1,(.ptr 1 0 0)),(3,(.d (.sl none (q.2.map Bd)))),(5,(.d (AF (q.1:Int))))],[(1,[.blk 93 [.d (AF i.id),.d (AF i.pr),.d (AF i.sq),.d (.sl none (i.po.map BV)),.d (.sl none (i.pa.map C8)),.d (.sl none (i.af.map AF))]])]⟩) (λq=>q.1<=i.pa.length/\q.2=touL (EB i.po++HS (i.pa.take q.1))) (λq=>i.pa.length - q.1) ((0,L)) (⟨ζ _,r⟩) (AU n [1] Z Z ⟨Z,Z,Z,trivial⟩) ?_))));rintro ⟨m,N⟩ ⟨o,j⟩;dsimp only at o j⊢;refine AD ?_;refine AD (AE (goMv Z Z (J (AL Z Cs Z Z Z) (J (AQ Z Z Z Jb Z) (J (BU Z underlying91 Z) (J (Az Z Z Z) (AC (A7 Z (λa=>?_) (λa=>?_)))))))))
  .have c:m<i.pa.length:=BR a;refine AX (AD (A2 (AD (AE ?_))));have e:N.length<=5000:=by rw [j];have:=OO (EB i.po++HS (i.pa.take m));rw [Δ,Iq] at this;simp only [EB,χ,ϱ] at this⊢;omega
   have v:=LG N (CK i.pa[m].f i.pa[m].t);have u:=LG (Ce N (CK i.pa[m].f i.pa[m].t)) (CK i.pa[m].t i.pa[m].f);have s:=LG (Ce (Ce N (CK i.pa[m].f i.pa[m].t)) (CK i.pa[m].t i.pa[m].f)) (DL i.pa[m].f);refine J (AL Z Cs Z Z Z) (J (AQ Z Z Z Jb Z) (goMv Z Z (J (BC (m) Z Z (Z) (A3 c) underlying91 Z K0 Z) (J (Ca Z Z Q5 Z) (V (CA 2 ay Z Z Z Z) (V (B4 Z Z Z Z Z Z Z K0) ?_))))));refine AC (AD (AE (goMv Z Z (J (AL Z Ef Z Z Z) (J (AQ Z Z Z CL Z) (J (AL Z Ee Z Z Z) (J (AQ Z Z Z CL Z) (J (EI St Z1 Z Z Z) ?_))))))));refine J (Aw (Ij N (CK i.pa[m].f i.pa[m].t) (by omega)) Z Z) (AB Z Z (AC (AD (AE (goMv Z Z (J (AL Z Ee Z Z Z) (J (AQ Z Z Z CL Z) (J (AL Z Ef Z Z Z) ?_))))))));refine J (AQ Z Z Z CL Z) (J (EI St Z1 Z Z Z) (J (Aw (Ij (Ce N (CK i.pa[m].f i.pa[m].t)) (CK i.pa[m].t i.pa[m].f) (by omega)) Z Z) (AB Z Z (AC (AD (AE (goMv Z Z (J (AL Z Ef Z Z Z) ?_))))))));refine J (AQ Z Z Z CL Z) (J (EI St Z1 Z Z Z) (J (Aw (Ij (Ce (Ce N (CK i.pa[m].f i.pa[m].t)) (CK i.pa[m].t i.pa[m].f)) (DL i.pa[m].f) (by omega)) Z Z) (AB Z Z (AC (AE (goMv Z Z (J (AL Z Ee Z Z Z) (J (AQ Z Z Z CL Z) ?_))))))));refine J (EI St Z1 Z Z Z) (J (Aw (Ij (Ce (Ce (Ce N (CK i.pa[m].f i.pa[m].t)) (CK i.pa[m].t i.pa[m].f)) (DL i.pa[m].f)) (DL i.pa[m].t) (by omega)) Z Z) (AB Z Z (AC (AE (goMv Z Z (J (Ah Z Z (AK (m+1) (by omega)) Z) (AB Z Z (AC ?_))))))));exact ⟨(m+1,_),⟨by show m+1<=_;omega,by show _=touL (EB i.po++HS (i.pa.take (m+1)));rw [touLY c,<-j]⟩,by show i.pa.length - (m+1)<i.pa.length - m;omega,AU n [1] Z (Z) ⟨Z,Z,Z,trivial⟩⟩
  .refine Ar (AD (AE (goMv Z Z (AB Z Z (AC (AZ ?_))))));exact ⟨_,[],[],AY Z,Z,Z,by rw [j,θ (by have h:=a;omega)]<;>rfl,Z⟩
theorem Tm (h:Ew i=0):Fj i=0/\Kh i=0/\N9 i=0:=by
 have a:=HI h
 simp_all
theorem L8 (h:¬(0<=i.id/\i.id<=1000000000)\/¬(0<=i.sq/\i.sq<=1000000000)\/¬(0<=i.pr/\i.pr<=2)):Ay i=2:=ς h
theorem P8 (h:¬(¬(0<=i.id/\i.id<=1000000000)\/¬(0<=i.sq/\i.sq<=1000000000)\/¬(0<=i.pr/\i.pr<=2))) (a:256<i.po.length\/256<i.pa.length\/256<i.af.length):Ay i=8:=by unfold Ay;rw [η h,ς a]
theorem f7 {i:AJ} (h:¬(¬(0<=i.id/\i.id<=1000000000)\/¬(0<=i.sq/\i.sq<=1000000000)\/¬(0<=i.pr/\i.pr<=2))) (a:¬(256<i.po.length\/256<i.pa.length\/256<i.af.length)):Ay i=if Ew i=0 then BQ [La i,Mk i] else Ew i:=by grind [Ay,SE,Ew,BQ]
theorem Yt (f:Fj i=0) (e:Kh i=0) (d:c∈touL (ctr i)):Al c=0:=by
 obtain ⟨x,a,rfl⟩:=Ξ.1 ((KS _ _).1 d);rcases ϖ.1 a with a | a
 .obtain ⟨p,b,rfl⟩:=Ξ.1 a;have:=V1.1 f p b
  grind [I5,Al]
 .obtain ⟨p,b,a⟩:=χl.1 a;have:=V1.1 e p b;unfold J7 at this
  split at this; · cases this
  split at this; · cases this
  grind [Mg,Al]
theorem bnd_tou {i:AJ} (h:∀r∈touL (ctr i),-Mx<=An (ctr i) r/\An (ctr i) r<=Mx):(0:Int)=Mk i:=by grind [f9,Fc,KS]
theorem NN {i:AJ} {r:AW} (a:r∈touL (ctr i)) (h:¬(-Mx<=An (ctr i) r/\An (ctr i) r<=Mx)):(12:Int)=Mk i:=by
 unfold Mk;rw [ς];exact ⟨(r,An (ctr i) r),(Fc _ _ _).2 ⟨(KS _ _).1 a,Z⟩,h⟩
theorem fh (a:k<i.po.length) (h:Bq i.po i.po[k].acc.a≠0):(14:Int)=La i:=by
 unfold La;rw [ς ⟨_,ϑ a,h⟩]
theorem bal_ok2 (h:∀p∈i.po,Bq i.po p.acc.a=0):La i=0:=by grind [La]
theorem Jp (i:AJ) (g1:i.po.length<=1000) (g2:i.pa.length<=1000) (g3:i.af.length<=1000):AM prog 50 [.d (Af i)] (AF (Ay i)):=by
 refine Ax func50 Z Z ntmps50 Z Z Z λF s=>(AD (AE (V (Bi 1 Z Z Z Z Z Z Z) (AB Z Z (AC ?_)))));refine AD (AD (AE (J (AL Z Fv Z Z Z) (J (AQ Z Z Z Ai Z) (J (Aw (I4 i.id) Z Z) (J (Je Z Z) (goMv Z Z (CX 14 Z (λS=>?_) (λS=>?_)))))))))
 .refine AI Z Z Z Z (AI Z Z Z Z (AI Z Z Z Z (AI Z Z Z Z ?_)));refine J (BY Z Z Z Z) (goMv Z Z (AI Z Z Z Z (AI Z Z Z Z (AI Z Z Z Z (J (BY Z Z Z Z) (goMv Z Z (AI Z Z Z Z (AI Z Z Z Z ?_))))))));refine AI Z Z Z Z (J (BY Z Z Z Z) (AC (Bz Z Z (AD (AE (AB Z Z (AC (AZ ?_))))))));exact ⟨_,[],[],AY Z,Z,Z,A0 (L8 (by omega)).symm,Z⟩
 .refine AR Z Z Z (J (AL Z Io Z Z Z) ?_);refine AR Z Z Z (J (AQ Z Z Z Ai Z) (AR Z Z Z (J (Aw (I4 i.sq) Z Z) (AR Z Z Z (J (Je Z Z) (J (Bf Z Z Z Z) (goMv Z Z (CX 20 Z (λR=>?_) (λR=>?_)))))))))
  .refine AI Z Z Z Z (AI Z Z Z Z (AI Z Z Z Z (J (BY Z Z Z Z) (goMv Z Z (AI Z Z Z Z (AI Z Z Z Z ?_))))));refine AI Z Z Z Z (J (BY Z Z Z Z) (AC (Bz Z Z (AD (AE (AB Z Z (AC (AZ ?_))))))));exact ⟨_,[],[],AY Z,Z,Z,A0 (L8 (by omega)).symm,Z⟩
  .refine AR Z Z Z (J (AL Z Hs Z Z Z) (AR Z Z Z (J (AQ Z Z Z Ai Z) (AR Z Z Z (J (Az Z Z Z) (J (Bf Z Z Z Z) (goMv Z Z (CX 25 Z (λQ=>?_) (λQ=>?_)))))))))
   .refine AI Z Z Z Z (AI Z Z Z Z ?_);refine AI Z Z Z Z (J (BY Z Z Z Z) (AC (Bz Z Z (AD (AE (AB Z Z (AC (AZ ?_))))))));exact ⟨_,[],[],AY Z,Z,Z,A0 (L8 (by omega)).symm,Z⟩
   .refine AR Z Z Z (J (AL Z Hs Z Z Z) (AR Z Z Z (J (AQ Z Z Z Ai Z) (AR Z Z Z (J (Gi Z Z Z) (J (Bf Z Z Z Z) (AC (A7 Z (λP=>?_) (λP=>?_)))))))))
    .refine AD (AE (AB Z Z (AC (AZ ?_))));exact ⟨_,[],[],AY Z,Z,Z,A0 (L8 (by omega)).symm,Z⟩
    .refine AX ?_;refine AD (AD (AE (J (AL Z OH Z Z Z) (J (AQ Z Z Z Fm Z) (J (BU Z underlying90 Z) (J (Gi Z Z Z) (goMv Z Z (CX 34 Z (λO=>?_) (λO=>?_)))))))))
     .refine AI Z Z Z Z (AI Z Z Z Z (AI Z Z Z Z (AI Z Z Z Z (J (BY Z Z Z Z) (goMv Z Z (AI Z Z Z Z (AI Z Z Z Z (AI Z Z Z Z ?_))))))));refine AI Z Z Z Z (J (BY Z Z Z Z) (AC (Bz Z Z (AD (AE (AB Z Z (AC (AZ ?_))))))));exact ⟨_,[],[],AY Z,Z,Z,A0 (P8 (by omega) (by omega)).symm,Z⟩
     .refine AR Z Z Z (J (AL Z Cs Z Z Z) ?_);refine AR Z Z Z (J (AQ Z Z Z Jb Z) (AR Z Z Z (J (BU Z underlying91 Z) (AR Z Z Z (J (Gi Z Z Z) (J (Bf Z Z Z Z) (goMv Z Z (CX 40 Z (λN=>?_) (λN=>?_)))))))))
      .refine AI Z Z Z Z (AI Z Z Z Z (AI Z Z Z Z ?_));refine AI Z Z Z Z (J (BY Z Z Z Z) (AC (Bz Z Z (AD (AE (AB Z Z (AC (AZ ?_))))))));exact ⟨_,[],[],AY Z,Z,Z,A0 (P8 (by omega) (by omega)).symm,Z⟩
      .refine AR Z Z Z (J (AL Z QP Z Z Z) ?_);refine AR Z Z Z (J (AQ Z Z Z BF Z) (AR Z Z Z (J (BU Z underlying28 Z) (AR Z Z Z (J (Gi Z Z Z) (J (Bf Z Z Z Z) (AC (A7 Z (λM=>?_) (λM=>?_)))))))))
       .refine AD (AE (AB Z Z (AC (AZ ?_))));exact ⟨_,[],[],AY Z,Z,Z,A0 (P8 (by omega) (by omega)).symm,Z⟩
       .refine AX (AD (AD ?_));have a:=f7 (i:=i) (by omega) (by omega);refine AE (J (BA Z Z G7 Z Z Z) ?_);refine J (Aw (parts_p i g1 g2 g3) Z Z) (AB Z Z (AC (AD (AE (goMv Z Z (J (C7 Z Z Z) (AC (A7 Z (λy=>?_) (λy=>?_)))))))))
        .refine AD (AE (goMv Z Z (AB Z Z (AC (AZ ?_)))));exact ⟨_,[],[],AY Z,Z,Z,A0 (by rw [a,η y]),Z⟩
        .refine AX (AD (AD ?_));have U:Ew i=0:=by simpa using y
         obtain ⟨B,A,hz3⟩:=Tm U;rw [ς U] at a
         have L:ItmB i:=⟨by omega,by omega,by omega,Rq B,cn A⟩
         refine AE (AB Z Z (AC (A2 (BO (α:=Nat) (λk=>⟨110,[(1,(.ptr 1 0 0)),(4,(.d (AF (k:Int))))],[(1,[.blk 93 [.d (AF i.id),.d (AF i.pr),.d (AF i.sq),.d (.sl none (i.po.map BV)),.d (.sl none (i.pa.map C8)),.d (.sl none (i.af.map AF))]])]⟩) (λk=>k<=i.po.length/\∀p∈i.po.take k,Bq i.po p.acc.a=0) (λk=>i.po.length - k) (0) (⟨ζ _,by simp⟩) (AU s [1] Z Z ⟨Z,Z,trivial⟩) ?_))));rintro k ⟨hk0,W⟩;refine AD ?_;refine AD (AE (goMv Z Z (J (AL Z OH Z Z Z) (J (AQ Z Z Z Fm Z) (J (BU Z underlying90 Z) (J (Az Z Z Z) (AC (A7 Z (λx=>?_) (λx=>?_)))))))))
         .have l:k<i.po.length:=BR x;refine AX (AD (A2 (AD (AE ?_))));refine AB Z Z (AC (AD (AD (AE (AB Z Z (AC (A2 (BO (α:=Nat×Int) (λq=>⟨110,[(1,(.ptr 1 0 0)),(4,(.d (AF (k:Int)))),(5,(.d (AF q.2))),(6,(.d (AF (q.1:Int))))],[(1,[.blk 93 [.d (AF i.id),.d (AF i.pr),.d (AF i.sq),.d (.sl none (i.po.map BV)),.d (.sl none (i.pa.map C8)),.d (.sl none (i.af.map AF))]])]⟩) (λq=>q.1<=i.po.length/\q.2=Bq (i.po.take q.1) i.po[k].acc.a) (λq=>i.po.length - q.1) ((0,0)) (⟨ζ _,Z⟩) (AU s [1] Z Z ⟨Z,Z,Z,Z,trivial⟩) ?_))))))));rintro ⟨m,n⟩ ⟨H,D⟩;dsimp only at H D⊢;refine AD ?_;refine AD (AE (goMv Z Z (J (AL Z OH Z Z Z) (J (AQ Z Z Z Fm Z) (J (BU Z underlying90 Z) (J (Az Z Z Z) (AC (A7 Z (λw=>?_) (λw=>?_)))))))))
          .have b:m<i.po.length:=BR w;refine AX (AD (A2 (AD (CD [[],[0],[],[0,1,2],[0,1,2,3],rg 5,rg 6,[],[7],[],[7,8,9],[7,8,9,10],[7,8,9,10,11],[7,8,9,10,11,12],rg 14] mixed Z (Bt ?_)))));refine AP [1] Z (AL Z OH Z Z Z) (Aj [65] Z Z (λ_=>A8 (AQ Z Z Z Fm Z)) (Ak 6 Z Z (AP [66,67] Z (BC (m) Z Z (Z) (A3 b) underlying90 Z IE Z) (AP [68] Z (V3 Z FQ Z Z Z) (AP [69] Z (NP Z M7 Z Z Z) (AP [70] Z (CF Z Z CL Z) (AP [1] Z (AL Z OH Z Z Z) (Aj [72] Z Z (λ_=>A8 (AQ Z Z Z Fm Z)) ?_))))))));refine Ak 4 Z Z (AP [73,74] Z (BC (k) Z Z (Z) (A3 l) underlying90 Z IE Z) (AP [75] Z (V3 Z FQ Z Z Z) (AP [76] Z (NP Z M7 Z Z Z) (AP [77] Z (CF Z Z CL Z) (Bk 14 Z Z Z (Ab 15 Z Z (J (KO Z Z Z) (AC ⟨Z,?_⟩))))))));refine Bx (A7 Z (λv=>?_) (λv=>?_))
           .refine AE (goMv Z Z (J (AL Z OH Z Z Z) (J (AQ Z Z Z Fm Z) (goMv Z Z (J (BC (m) Z Z (Z) (A3 b) underlying90 Z IE Z) (J (NP Z LP Z Z Z) (J (CF Z Z Fn Z) ?_)))))));have K:=L.d _ (ϑ b);have I:=Ix (i.po.take m) i.po[k].acc.a (R7 L.d);rw [<-D,ϱ] at I;simp only [Mx] at K;refine J (Ah Z Z (Θ _ (by omega)) Z) (AB Z Z (AC (AE (goMv Z Z (J (Ah Z Z (AK (m+1) (by omega)) Z) (AB Z Z (AC ?_)))))));exact ⟨(m+1,_),⟨by show m+1<=_;omega,by show _=Bq (i.po.take (m+1)) _;rw [ψ b,Gg,<-D,ς v]⟩,by show i.po.length - (m+1)<i.po.length - m;omega,AU s [1] Z (Z) ⟨Z,Z,Z,Z,trivial⟩⟩
           .refine AX (AE (goMv Z Z (J (Ah Z Z (AK (m+1) (by omega)) Z) (AB Z Z (AC ?_)))));exact ⟨(m+1,_),⟨by show m+1<=_;omega,by show _=Bq (i.po.take (m+1)) _;rw [ψ b,Gg,<-D,η v];exact (Int.add_zero _).symm⟩,by show i.po.length - (m+1)<i.po.length - m;omega,AU s [1] Z (Z) ⟨Z,Z,Z,Z,trivial⟩⟩
          .refine Ar (AD ?_);have Y:n=Bq i.po i.po[k].acc.a:=by rw [D,θ (by have h:=w;omega)]
           refine AE (goMv Z Z (J (C7 Z Z Z) (AC (A7 Z (λu=>?_) (λu=>?_)))))
           .refine AD (AE (AB Z Z (AC (AZ ?_))));exact ⟨_,[],[],AY Z,Z,Z,A0 (by have h:=fh l (by rw [<-Y];exact u);rw [a,BQ,η (by rw [<-h];decide),<-h]),Z⟩
           .refine AX (AE (goMv Z Z (J (Ah Z Z (AK (k+1) (by omega)) Z) (AB Z Z (AC ?_)))));exact ⟨k+1,⟨by show k+1<=_;omega,by rw [ψ l];intro p g;rcases ϖ.1 g with g | g;exact W p g;rw [κ.1 g];simpa [Y] using u⟩,by show i.po.length - (k+1)<i.po.length - k;omega,AU s [1] Z (Z) ⟨Z,Z,trivial⟩⟩
         .refine Ar (AD ?_);have o:La i=0:=bal_ok2 (λp g=>W p (by rw [θ (by have h:=x;omega)];exact g))
          obtain ⟨T,z⟩:∃T,touL (ctr i)=T:=⟨_,Z⟩
          have C:=Ys i g1 g2;rw [z] at C;have hTl:T.length<=5000:=by rw [<-z];have h1:=OO (ctr i);have h2:=Hx i;omega
          refine AE (J (BA Z Z G7 Z Z Z) (J (Aw (C) Z Z) ?_));refine AB Z Z (AC (AD (AD (AE (AB Z Z (AC (A2 (BO (α:=Nat) (λj=>⟨110,[(1,(.ptr 1 0 0)),(7,(.d (.sl none (T.map Bd)))),(8,(.d (AF (j:Int))))],[(1,[.blk 93 [.d (AF i.id),.d (AF i.pr),.d (AF i.sq),.d (.sl none (i.po.map BV)),.d (.sl none (i.pa.map C8)),.d (.sl none (i.af.map AF))]])]⟩) (λj=>j<=T.length/\∀r∈T.take j,-Mx<=An (ctr i) r/\An (ctr i) r<=Mx) (λj=>T.length - j) (0) (⟨ζ _,by simp⟩) (AU s [1] Z Z ⟨Z,Z,Z,trivial⟩) ?_))))))));rintro j ⟨hj0,X⟩;refine AD (AD (AE (goMv Z Z (goMv Z Z (J (BU Z underlying194 Z) (J (Az Z Z Z) (AC (A7 Z (λt=>?_) (λt=>?_)))))))))
          .have c:j<T.length:=BR t;refine AX (AD (A2 (AD (CD [[],[],[],[1,2],[1,2,3],rg 5,rg 6] mixed Z (Bt ?_)))));have e:MC i T[j]=An (ctr i) T[j]:=Qe (Yt B A (by rw [z];exact ϑ c));refine Aj [1] Z Z (λ_=>A8 (BA Z Z G7 Z Z Z)) (Ak 7 Z Z (Ak 8 Z Z (AP [99,100] Z (BC (j) Z Z (Z) (A3 c) underlying194 Z KX Z) (AP [101] Z (Ca Z Z G6 Z) (Bk 5 Z Z Z (Ab 6 Z Z (J (Aw (Te i T[j] L) Z Z) (AC ⟨Z,?_⟩))))))));refine Ab 7 Z Z (AB Z Z (AC ⟨Z,?_⟩));refine Bx (AD (AE (goMv Z Z (J (Az Z Z Z) (goMv Z Z (CX 106 Z (λG=>?_) (λG=>?_)))))))
           .refine AI Z Z Z Z ?_;refine AI Z Z Z Z (J (BY Z Z Z Z) (AC (Bz Z Z (AD (AE (AB Z Z (AC (AZ ?_))))))));exact ⟨_,[],[],AY Z,Z,Z,A0 (by have h:=NN (i:=i) (r:=T[j]) (by rw [z];exact ϑ c) (by rw [<-e];simp only [Mx];omega);rw [a,BQ,ς o,BQ,η (by rw [<-h];decide),<-h]),Z⟩
           .refine AR Z Z Z (goMv Z Z (AR Z Z Z (J (Gi Z Z Z) (J (Bf Z Z Z Z) (AC (A7 Z (λE=>?_) (λE=>?_)))))))
            .refine AD (AE (AB Z Z (AC (AZ ?_))));exact ⟨_,[],[],AY Z,Z,Z,A0 (by have h:=NN (i:=i) (r:=T[j]) (by rw [z];exact ϑ c) (by rw [<-e];simp only [Mx];omega);rw [a,BQ,ς o,BQ,η (by rw [<-h];decide),<-h]),Z⟩
            .refine AX (AE (goMv Z Z (J (Ah Z Z (AK (j+1) (by omega)) Z) (AB Z Z (AC ?_)))));exact ⟨j+1,⟨by show j+1<=_;omega,by rw [ψ c];intro r f;rcases ϖ.1 f with f | f;exact X r f;rw [κ.1 f,<-e];simp only [Mx];omega⟩,by show T.length - (j+1)<T.length - j;omega,AU s [1] Z (Z) ⟨Z,Z,Z,trivial⟩⟩
          .refine Ar (AD (AE (AB Z Z (AC (AZ ?_)))));exact ⟨_,[],[],AY Z,Z,Z,A0 (by have h:=bnd_tou (i:=i) (λr f=>X r (by rw [θ (by have h:=t;omega),<-z];exact f));rw [a,BQ,ς o,BQ,ς h.symm];rfl),Z⟩
deriving instance DecidableEq for EC
deriving instance DecidableEq for Jl
deriving instance DecidableEq for AJ
deriving instance DecidableEq for Ae
theorem EC.eq_iff {x y:EC}:x=y↔x.acc=y.acc/\x.d=y.d:=by cases x;cases y;simp
theorem Jl.eq_iff {x y:Jl}:x=y↔x.f=y.f/\x.t=y.t/\x.n=y.n:=by cases x;cases y;simp
theorem Ae.eq_iff {x y:Ae}:x=y↔x.r=y.r/\x.n=y.n:=by cases x;cases y;simp
theorem AJ.eq_iff {x y:AJ}:x=y↔x.id=y.id/\x.pr=y.pr/\x.sq=y.sq/\x.po=y.po/\x.pa=y.pa/\x.af=y.af:=by cases x;cases y;simp
def Qh (x:EC):List Value:=[Gr x.acc.o,.int .i64 x.acc.k,Gr x.acc.a,.int .i64 x.d]
def Z2 (x:Jl):List Value:=[Gr x.f,Gr x.t,.int .i64 x.n]
def ZU (x:Ae):List Value:=[.int .i64 x.r.k,Gr x.r.acc.o,.int .i64 x.r.acc.k,Gr x.r.acc.a,Gr x.r.f,Gr x.r.t,.int .i64 x.n]
abbrev postT:List TypeDesc:=[.string,.int .i64,.string,.int .i64]
abbrev payT:List TypeDesc:=[.string,.string,.int .i64]
abbrev rooT:List TypeDesc:=[.int .i64,.string,.int .i64,.string,.string,.string,.int .i64]
theorem c7 (a b:EC):BX (Qh a) (Qh b)=decide (a=b):=by grind [Qh,BX,Fz,Fy,EC.eq_iff,Sl.eq_iff]
theorem pay_eqC (a b:Jl):BX (Z2 a) (Z2 b)=decide (a=b):=by grind [Z2,BX,Fz,Fy,Jl.eq_iff]
theorem roo_eqC (a b:Ae):BX (ZU a) (ZU b)=decide (a=b):=by simp [*,ZU,BX,Fz,Fy,Ae.eq_iff,AW.eq_iff,Sl.eq_iff,Bool.and_assoc]
theorem Oc (a:EC):BH postT (Qh a):=Pi trivial (Pi Z (Pi trivial (Pi Z Gy)))
theorem Qj (a:Jl):BH payT (Z2 a):=Pi trivial (Pi trivial (Pi Z Gy))
theorem Q9 (a:Ae):BH rooT (ZU a):=Pi Z (Pi trivial (Pi Z (Pi trivial (Pi trivial (Pi trivial (Pi Z Gy))))))
theorem neC {p:Prop} [Decidable p] {b:Bool} (h:b=decide p):(!b)=decide (¬p):=by rw [h];simp
theorem KV (g:k<d.length) (e:k<f.length) (h:d.take k=f.take k) (c:d[k]=f[k]):d.take (k+1)=f.take (k+1):=by
 rw [ψ g,ψ e,h,c]
theorem OQ (c:d.length=f.length) (e:¬k<d.length) (h:d.take k=f.take k):d=f:=by grind [θ]
theorem UE (g:k<d.length) (e:k<f.length) (c:d[k]≠f[k]):d≠f:=by grind
abbrev Zz (T:TypeId) (i:AJ):AN:= .blk T [.d (AF i.id),.d (AF i.pr),.d (AF i.sq),.d (.sl none (i.po.map BV)),.d (.sl none (i.pa.map C8)),.d (.sl none (i.af.map AF))]
theorem Vy (a b:AJ) (D:a.po.length<=100000000) (C:a.pa.length<=100000000) (B:a.af.length<=100000000):AM prog 91 [.d (Af a),.d (Af b)] (.raw (.bool (decide (a=b)))):=by
 refine Ax func91 Z Z ntmps91 Z Z Z λF o=>(AD (AE (V (Bi 1 Z Z Z Z Z Z Z) (V (Bi 2 Z Z Z Z Z Z Z) (AB Z Z (AC (AD ?_)))))));refine AD (AE (J (AL Z Fv Z Z Z) (J (AQ Z Z Z Ai Z) (J (AL Z Fv Z Z Z) (J (AQ Z Z Z Ai Z) (J (C7 Z Z Z) (goMv Z Z (CX 13 Z (λA=>?_) (λA=>?_)))))))))
 .refine AI Z Z Z Z (AI Z Z Z Z ?_);refine AI Z Z Z Z (AI Z Z Z Z (AI Z Z Z Z (J (BY Z Z Z Z) (goMv Z Z (AI Z Z Z Z (AI Z Z Z Z (AI Z Z Z Z (AI Z Z Z Z ?_))))))));refine AI Z Z Z Z (J (BY Z Z Z Z) (goMv Z Z (AI Z Z Z Z (AI Z Z Z Z (AI Z Z Z Z (AI Z Z Z Z (AI Z Z Z Z (AI Z Z Z Z ?_))))))));refine AI Z Z Z Z (J (BY Z Z Z Z) (goMv Z Z (AI Z Z Z Z (AI Z Z Z Z (AI Z Z Z Z (AI Z Z Z Z (AI Z Z Z Z (AI Z Z Z Z ?_))))))));refine AI Z Z Z Z (J (BY Z Z Z Z) (goMv Z Z (AI Z Z Z Z (AI Z Z Z Z (AI Z Z Z Z (AI Z Z Z Z (AI Z Z Z Z (AI Z Z Z Z ?_))))))));refine AI Z Z Z Z (J (BY Z Z Z Z) (AC (Bz Z Z (AD (AE (AB Z Z (AC (AZ ?_))))))));exact ⟨_,[],[],AY Z,Z,Z,DK (λh=>by subst h;simp_all),Z⟩
 .refine AR Z Z Z (J (AL Z Hs Z Z Z) (AR Z Z Z (J (AQ Z Z Z Ai Z) ?_)));refine AR Z Z Z (J (AL Z Hs Z Z Z) (AR Z Z Z (J (AQ Z Z Z Ai Z) (AR Z Z Z (J (C7 Z Z Z) (J (Bf Z Z Z Z) (goMv Z Z (CX 20 Z (λz=>?_) (λz=>?_)))))))))
  .refine AI Z Z Z Z (AI Z Z Z Z (AI Z Z Z Z (AI Z Z Z Z ?_)));refine AI Z Z Z Z (J (BY Z Z Z Z) (goMv Z Z (AI Z Z Z Z (AI Z Z Z Z (AI Z Z Z Z (AI Z Z Z Z (AI Z Z Z Z (AI Z Z Z Z ?_))))))));refine AI Z Z Z Z (J (BY Z Z Z Z) (goMv Z Z (AI Z Z Z Z (AI Z Z Z Z (AI Z Z Z Z (AI Z Z Z Z (AI Z Z Z Z (AI Z Z Z Z ?_))))))));refine AI Z Z Z Z (J (BY Z Z Z Z) (goMv Z Z (AI Z Z Z Z (AI Z Z Z Z (AI Z Z Z Z (AI Z Z Z Z (AI Z Z Z Z (AI Z Z Z Z ?_))))))));refine AI Z Z Z Z (J (BY Z Z Z Z) (AC (Bz Z Z (AD (AE (AB Z Z (AC (AZ ?_))))))));exact ⟨_,[],[],AY Z,Z,Z,DK (λh=>by subst h;simp_all),Z⟩
  .refine AR Z Z Z (J (AL Z Io Z Z Z) (AR Z Z Z (J (AQ Z Z Z Ai Z) ?_)));refine AR Z Z Z (J (AL Z Io Z Z Z) (AR Z Z Z (J (AQ Z Z Z Ai Z) (AR Z Z Z (J (C7 Z Z Z) (J (Bf Z Z Z Z) (goMv Z Z (CX 27 Z (λy=>?_) (λy=>?_)))))))))
   .refine AI Z Z Z Z (AI Z Z Z Z (AI Z Z Z Z (AI Z Z Z Z (AI Z Z Z Z (AI Z Z Z Z ?_)))));refine AI Z Z Z Z (J (BY Z Z Z Z) (goMv Z Z (AI Z Z Z Z (AI Z Z Z Z (AI Z Z Z Z (AI Z Z Z Z (AI Z Z Z Z (AI Z Z Z Z ?_))))))));refine AI Z Z Z Z (J (BY Z Z Z Z) (goMv Z Z (AI Z Z Z Z (AI Z Z Z Z (AI Z Z Z Z (AI Z Z Z Z (AI Z Z Z Z (AI Z Z Z Z ?_))))))));refine AI Z Z Z Z (J (BY Z Z Z Z) (AC (Bz Z Z (AD (AE (AB Z Z (AC (AZ ?_))))))));exact ⟨_,[],[],AY Z,Z,Z,DK (λh=>by subst h;simp_all),Z⟩
   .refine AR Z Z Z (J (AL Z OH Z Z Z) (AR Z Z Z (J (AQ Z Z Z Fm Z) (AR Z Z Z (J (BU Z underlying90 Z) (AR Z Z Z (J (AL Z OH Z Z Z) ?_)))))));refine AR Z Z Z (J (AQ Z Z Z Fm Z) (AR Z Z Z (J (BU Z underlying90 Z) (AR Z Z Z (J (C7 Z Z Z) (J (Bf Z Z Z Z) (goMv Z Z (CX 36 Z (λx=>?_) (λx=>?_)))))))))
    .refine AI Z Z Z Z (AI Z Z Z Z (AI Z Z Z Z (AI Z Z Z Z (AI Z Z Z Z (AI Z Z Z Z ?_)))));refine AI Z Z Z Z (J (BY Z Z Z Z) (goMv Z Z (AI Z Z Z Z (AI Z Z Z Z (AI Z Z Z Z (AI Z Z Z Z (AI Z Z Z Z (AI Z Z Z Z ?_))))))));refine AI Z Z Z Z (J (BY Z Z Z Z) (AC (Bz Z Z (AD (AE (AB Z Z (AC (AZ ?_))))))));exact ⟨_,[],[],AY Z,Z,Z,DK (λh=>by subst h;simp_all),Z⟩
    .refine AR Z Z Z (J (AL Z Cs Z Z Z) (AR Z Z Z (J (AQ Z Z Z Jb Z) (AR Z Z Z (J (BU Z underlying91 Z) (AR Z Z Z (J (AL Z Cs Z Z Z) ?_)))))));refine AR Z Z Z (J (AQ Z Z Z Jb Z) (AR Z Z Z (J (BU Z underlying91 Z) (AR Z Z Z (J (C7 Z Z Z) (J (Bf Z Z Z Z) (goMv Z Z (CX 45 Z (λw=>?_) (λw=>?_)))))))))
     .refine AI Z Z Z Z (AI Z Z Z Z (AI Z Z Z Z (AI Z Z Z Z (AI Z Z Z Z (AI Z Z Z Z ?_)))));refine AI Z Z Z Z (J (BY Z Z Z Z) (AC (Bz Z Z (AD (AE (AB Z Z (AC (AZ ?_))))))));exact ⟨_,[],[],AY Z,Z,Z,DK (λh=>by subst h;simp_all),Z⟩
     .refine AR Z Z Z (J (AL Z QP Z Z Z) (AR Z Z Z (J (AQ Z Z Z BF Z) (AR Z Z Z (J (BU Z underlying28 Z) (AR Z Z Z (J (AL Z QP Z Z Z) ?_)))))));refine AR Z Z Z (J (AQ Z Z Z BF Z) (AR Z Z Z (J (BU Z underlying28 Z) (AR Z Z Z (J (C7 Z Z Z) (J (Bf Z Z Z Z) (AC (A7 Z (λv=>?_) (λv=>?_)))))))))
      .refine AD (AE (AB Z Z (AC (AZ ?_))));exact ⟨_,[],[],AY Z,Z,Z,DK (λh=>by subst h;simp_all),Z⟩
      .refine AX (AD (AD ?_));have r:a.po.length=b.po.length:=by omega
       have t:a.pa.length=b.pa.length:=by omega
       have u:a.af.length=b.af.length:=by omega
       refine AE (AB Z Z (AC (A2 (BO (α:=Nat) (λk=>⟨108,[(2,(.ptr 1 0 0)),(3,(.ptr 2 0 0)),(5,(.d (AF (k:Int))))],[(1,[Zz 93 a]),(2,[Zz 93 b])]⟩) (λk=>k<=a.po.length/\a.po.take k=b.po.take k) (λk=>a.po.length - k) (0) (⟨ζ _,by simp⟩) (AU o [1,2] Z Z ⟨Z,Z,Z,trivial⟩) ?_))));rintro k ⟨p,g⟩;refine AD ?_;refine AD (AE (goMv Z Z (J (AL Z OH Z Z Z) (J (AQ Z Z Z Fm Z) (J (BU Z underlying90 Z) (J (Az Z Z Z) (AC (A7 Z (λn=>?_) (λn=>?_)))))))))
       .have e:k<a.po.length:=BR n;refine AX (AD (A2 (AD (CD [[],[0],[],[0,1,2],[0,1,2,3],[],[5],[],[5,6,7],[5,6,7,8],rg 10] mixed Z (Bt ?_)))));have c:k<b.po.length:=by omega
        refine AP [2] Z (AL Z OH Z Z Z) (Aj [61] Z Z (λ_=>A8 (AQ Z Z Z Fm Z)) (Ak 5 Z Z (AP [62,63] Z (BC (k) Z Z (Z) (A3 e) underlying90 Z IE Z) (AP [64] Z (Ca Z Z cE Z) ?_))));refine AP [3] Z (AL Z OH Z Z Z) (Aj [66] Z Z (λ_=>A8 (AQ Z Z Z Fm Z)) (Ak 5 Z Z (AP [67,68] Z (BC (k) Z Z (Z) (A3 c) underlying90 Z IE Z) (AP [69] Z (Ca Z Z cE Z) (Bk 10 Z Z Z (Ab 11 Z Z (J (OU (la:=Qh a.po[k]) (lb:=Qh b.po[k]) (ds:=postT) (by kernel_rfl) (by kernel_rfl) (by kernel_rfl) Z Z Z Z (Oc _) (Oc _) (neC (c7 _ _)) Z) (AC ⟨Z,?_⟩))))))));refine Bx (A7 Z (λm=>?_) (λm=>?_))
        .refine AD (AE (AB Z Z (AC (AZ ?_))));exact ⟨_,[],[],AY Z,Z,Z,DK (λh=>UE e c m (by rw [h])),Z⟩
        .refine AX (AE (goMv Z Z (J (Ah Z Z (AK (k+1) (by omega)) Z) (AB Z Z (AC ?_)))));exact ⟨k+1,⟨by show k+1<=_;omega,KV e c g (by simpa using m)⟩,by show a.po.length - (k+1)<a.po.length - k;omega,AU o [1,2] Z (Z) ⟨Z,Z,Z,trivial⟩⟩
       .refine Ar (AD (AD ?_));have s:=OQ r (by have h:=n;omega) g;refine AE (AB Z Z (AC (A2 (BO (α:=Nat) (λk=>⟨108,[(2,(.ptr 1 0 0)),(3,(.ptr 2 0 0)),(6,(.d (AF (k:Int))))],[(1,[Zz 93 a]),(2,[Zz 93 b])]⟩) (λk=>k<=a.pa.length/\a.pa.take k=b.pa.take k) (λk=>a.pa.length - k) (0) (⟨ζ _,by simp⟩) (AU o [1,2] Z Z ⟨Z,Z,Z,trivial⟩) ?_))));rintro k ⟨p,g⟩;refine AD ?_;refine AD (AE (goMv Z Z (J (AL Z Cs Z Z Z) (J (AQ Z Z Z Jb Z) (J (BU Z underlying91 Z) (J (Az Z Z Z) (AC (A7 Z (λl=>?_) (λl=>?_)))))))))
        .have e:k<a.pa.length:=BR l;refine AX (AD (A2 (AD (CD [[],[0],[],[0,1,2],[0,1,2,3],[],[5],[],[5,6,7],[5,6,7,8],rg 10] mixed Z (Bt ?_)))));have c:k<b.pa.length:=by omega
         refine AP [2] Z (AL Z Cs Z Z Z) (Aj [79] Z Z (λ_=>A8 (AQ Z Z Z Jb Z)) (Ak 6 Z Z (AP [80,81] Z (BC (k) Z Z (Z) (A3 e) underlying91 Z K0 Z) (AP [82] Z (Ca Z Z Q5 Z) ?_))));refine AP [3] Z (AL Z Cs Z Z Z) (Aj [84] Z Z (λ_=>A8 (AQ Z Z Z Jb Z)) (Ak 6 Z Z (AP [85,86] Z (BC (k) Z Z (Z) (A3 c) underlying91 Z K0 Z) (AP [87] Z (Ca Z Z Q5 Z) (Bk 10 Z Z Z (Ab 11 Z Z (J (OU (la:=Z2 a.pa[k]) (lb:=Z2 b.pa[k]) (ds:=payT) (by kernel_rfl) (by kernel_rfl) (by kernel_rfl) Z Z Z Z (Qj _) (Qj _) (neC (pay_eqC _ _)) Z) (AC ⟨Z,?_⟩))))))));refine Bx (A7 Z (λj=>?_) (λj=>?_))
         .refine AD (AE (AB Z Z (AC (AZ ?_))));exact ⟨_,[],[],AY Z,Z,Z,DK (λh=>UE e c j (by rw [h])),Z⟩
         .refine AX (AE (goMv Z Z (J (Ah Z Z (AK (k+1) (by omega)) Z) (AB Z Z (AC ?_)))));exact ⟨k+1,⟨by show k+1<=_;omega,KV e c g (by simpa using j)⟩,by show a.pa.length - (k+1)<a.pa.length - k;omega,AU o [1,2] Z (Z) ⟨Z,Z,Z,trivial⟩⟩
        .refine Ar (AD (AD ?_));have q:=OQ t (by have h:=l;omega) g;refine AE (AB Z Z (AC (A2 (BO (α:=Nat) (λk=>⟨108,[(2,(.ptr 1 0 0)),(3,(.ptr 2 0 0)),(7,(.d (AF (k:Int))))],[(1,[Zz 93 a]),(2,[Zz 93 b])]⟩) (λk=>k<=a.af.length/\a.af.take k=b.af.take k) (λk=>a.af.length - k) (0) (⟨ζ _,by simp⟩) (AU o [1,2] Z Z ⟨Z,Z,Z,trivial⟩) ?_))));rintro k ⟨p,g⟩;refine AD ?_;refine AD (AE (goMv Z Z (J (AL Z QP Z Z Z) (J (AQ Z Z Z BF Z) (J (BU Z underlying28 Z) (J (Az Z Z Z) (AC (A7 Z (λi=>?_) (λi=>?_)))))))))
         .have e:k<a.af.length:=BR i;refine AX (AD (A2 (AD (CD [[],[0],[],[0,1,2],[0,1,2,3],[],[5],[],[5,6,7],[5,6,7,8],rg 10] mixed Z (Bt ?_)))));have c:k<b.af.length:=by omega
          refine AP [2] Z (AL Z QP Z Z Z) (Aj [97] Z Z (λ_=>A8 (AQ Z Z Z BF Z)) (Ak 7 Z Z (AP [98,99] Z (BC (k) Z Z (Z) (A3 e) underlying28 Z BD Z) (AP [100] Z (CF Z Z Ai Z) ?_))));refine AP [3] Z (AL Z QP Z Z Z) (Aj [102] Z Z (λ_=>A8 (AQ Z Z Z BF Z)) (Ak 7 Z Z (AP [103,104] Z (BC (k) Z Z (Z) (A3 c) underlying28 Z BD Z) (AP [105] Z (CF Z Z Ai Z) (Bk 10 Z Z Z (Ab 11 Z Z (J (C7 Z Z Z) (AC ⟨Z,?_⟩))))))));refine Bx (A7 Z (λf=>?_) (λf=>?_))
          .refine AD (AE (AB Z Z (AC (AZ ?_))));exact ⟨_,[],[],AY Z,Z,Z,DK (λh=>UE e c f (by rw [h])),Z⟩
          .refine AX (AE (goMv Z Z (J (Ah Z Z (AK (k+1) (by omega)) Z) (AB Z Z (AC ?_)))));exact ⟨k+1,⟨by show k+1<=_;omega,KV e c g (by simpa using f)⟩,by show a.af.length - (k+1)<a.af.length - k;omega,AU o [1,2] Z (Z) ⟨Z,Z,Z,trivial⟩⟩
         .refine Ar (AD (AE (AB Z Z (AC (AZ ?_)))));exact ⟨_,[],[],AY Z,Z,Z,Rg (AJ.eq_iff.2 ⟨by omega,by omega,by omega,s,q,OQ u (by have h:=i;omega) g⟩),Z⟩
end Go.Proofs.YteifpcnphnhaoaaGreat
