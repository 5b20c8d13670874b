import Derived.Test.YteifpcnphnhaoaaGreatMg18
open Go.Proofs.Tryz
namespace Go.Proofs.YteifpcnphnhaoaaGreat
open Go.RowKit
variable {i:AI} {k:Nat} {a:Type} {c:Int} {f:List a} {g:AT}
set_option maxRecDepth 100000
theorem Lu:∀{l:List AT} {r:AT} {k:Nat},(∀x∈l.take k,Bf x r<0) ->l[k]? =some r ->C7 l r=l
 | [],_,_,_,h=>by simp at h
 | a::l,r,0,_,h=>by
  simp at h;subst h
  simp [C7,PZ.refl]
 | a::l,r,k+1,b,h=>by
  have f:Bf a r<0:=b a (by simp);simp only [C7,ϱ f];rw [Lu (k:=k) (λx c=>b x (by simp [c])) (by simpa using h)]
theorem Ib:∀{l:List AT} {r:AT} {k:Nat},k<=l.length ->(∀x∈l.take k,Bf x r<0) ->(∀x,l[k]? =some x ->¬Bf x r<0/\x≠r) ->C7 l r=(l.take k++ [r])++l.drop k
 | [],r,0,_,_,_=>rfl
 | [],r,k+1,h,_,_=>by simp at h
 | a::l,r,0,_,_,h=>by
  obtain ⟨b,f⟩:=h a rfl
  simp [C7,θ b,θ f]
 | a::l,r,k+1,g,b,h=>by
  have f:Bf a r<0:=b a (by simp);simp only [C7,ϱ f];rw [Ib (k:=k) (by simpa using g) (λx c=>b x (by simp [c])) (λx c=>h x (by simpa using c))]
  simp
theorem Ke (l:List AT) (r:AT):(C7 l r).length<=l.length+1:=by
 induction l with
 | nil=>simp [C7]
 | cons a l b=>
  grind [C7]
theorem Nk (c:List (AT×Int)):(gI c).length<=c.length:=by
 induction c using Zp with
 | h0=>simp [gI]
 | h1 l x a=>rw [Iv];have:=Ke (gI l) x.1;simp only [Δ,ς];omega
def pd (r:AT) (p:FT):Int:=if p.acc=r.acc then p.d else 0
def tj (r:AT) (p:MW):Int:=if p.f=r.f/\(r.k=2\/p.t=r.t) then p.n else 0
def th (r:AT) (p:MW):Int:=if p.t=r.f/\(r.k=2\/p.f=r.t) then p.n else 0
def yd (r:AT) (p:MW):Int:= - tj r p+th r p
def La (i:AI) (r:AT):Int:=if r.k=0 then (i.po.map (pd r)).sum else (i.pa.map (yd r)).sum
theorem Ih {l:List (AT×Int)} (h:∀x∈l,x.1≠g):Ai l g=0:=by
 induction l with
 | nil=>rfl
 | cons x l a=>
  grind [Ai]
theorem UQ (l:List a) (f:a ->List (AT×Int)) (r:AT):Ai (l.flatMap f) r=(l.map λb=>Ai (f b) r).sum:=by
 induction l with
 | nil=>rfl
 | cons b l c=>rw [List.flatMap_cons,G5,c];rfl
theorem QJ (h:CF g=0):La i g=Ai (gN i) g:=by
 unfold La gN;rw [G5];unfold CF at h
 split at h
 .rename_i a
  split at h
  .rename_i c
   rw [ϱ a]
   have w:Ai (HB i.pa) g=0:=Ih λx s e=>by
    obtain ⟨p,_,y⟩:=jQ.1 s;simp only [ML,Υ,List.not_mem_nil,or_false] at y;rw [<-e] at a;rcases y with rfl | rfl | rfl | rfl<;>simp at a
   rw [w,Int.add_zero];unfold Ai Dy;rw [gZ]
   congr 1
   apply gi
   intro p _;simp only [pd,Function.comp,Gl]
   have e:(({k:=0,acc:=p.acc,f:=[],t:=[]}:AT)=g)↔p.acc=g.acc:=by
    rw [AT.eq_iff];simp [a,c.2.2.2.2.1,c.2.2.2.2.2]
   by_cases o:p.acc=g.acc
   .rw [ϱ o,ϱ (e.2 o)]
   .rw [θ o,θ (λh=>o (e.1 h))]
  .cases h
 .rename_i a
  rw [θ a]
  have w:Ai (Dy i.po) g=0:=Ih λx s e=>by
   obtain ⟨p,_,rfl⟩:=Θ.1 s;rw [<-e] at a;simp at a
  rw [w,Int.zero_add];unfold HB;rw [UQ]
  congr 1
  apply gi
  intro p _;simp only [yd,tj,th,ML,Ai,iV,List.map_nil,List.sum_cons,List.sum_nil,CE,DH,AT.eq_iff]
  split at h
  .rename_i v
   split at h
   .rename_i c
    have j:(ms=g.acc)=True:=eq_true c.2.2.2.symm;simp only [v,j];have A:¬(1:Int)=2:=by decide
    have z:¬(2:Int)=1:=by decide
    simp only [A,z,false_and,false_or,true_and,if_false]
    by_cases b:p.f=g.f/\p.t=g.t
    .by_cases l:p.t=g.f/\p.f=g.t
     .rw [ϱ b,ϱ l,ϱ b];omega
     .rw [ϱ b,θ l,ϱ b];omega
    .by_cases l:p.t=g.f/\p.f=g.t
     .rw [θ b,ϱ l,θ b];omega
     .rw [θ b,θ l,θ b];omega
   .cases h
  .split at h
   .rename_i u
    split at h
    .rename_i c
     have j:(ms=g.acc)=True:=eq_true c.2.2.symm;simp only [u,j,c.2.1]
     by_cases C:p.f=g.f<;>by_cases B:p.t=g.f<;>simp [C,B]<;>omega
    .cases h
   .cases h
theorem Ia (l:List AT) (r:AT) (s:l.length<=100000):AK prog 152 [.d (.sl none (l.map Bc)),.d (Bc r)] (.sl none ((C7 l r).map Bc)):=by
 refine At func152 Z Z ntmps152 Z Z Z λF o=>(AC (AE (V (Bo 1 Z Z Z Z Z Z Z) ?_)));refine AB Z Z (AD (AC (AE (AB Z Z (AD (AC (AZ (BO (α:=Nat) (λk=>⟨49,[(0,.d (.sl none (l.map Bc))),(3,(.ptr 1 0 0)),(5,(.d (AF (k:Int))))],[(1,[.blk 98 [.d (AF r.k),.d (Am r.acc.o),.d (AF r.acc.k),.d (Am r.acc.a),.d (Am r.f),.d (Am r.t)]])]⟩) (λk=>k<=l.length/\∀x∈l.take k,Bf x r<0) (λk=>l.length - k) (0) (⟨ζ _,by simp⟩) (AY o [1] Z Z Qs) ?_))))))));rintro k ⟨h,i⟩;refine AC (AC ?_);refine CZ [[],[],[1],[0,1,2],[0,1,2,3],rg 5,rg 5,rg 7,rg 8,rg 5,rg 10,rg 11,rg 12] mixed Z (CG (Av 5 Z Z (Av 0 Z Z (AU [8] Z (Ba Z ey Z) (CB 3 Z Z Z (Ad 4 Z Z (J (BB Z Z Z) (AD ⟨Z,?_⟩))))))));refine Ad 5 Z Z (fZ Z Z (C3 11 Z (λj=>?_) (λj=>?_)))
 .refine AD ⟨Z,?_⟩;refine CG ?_
  try have a:k<l.length:=BR j
  refine Ao [0,11] [] Z Z (λ_=>Ck Z Z Z (P0 Z Z)) ?_;refine Ao [5,11] [] Z Z (λ_=>Ck Z Z Z (P0 Z Z)) (Ao [12,13,11] [] Z Z (λ_=>Ck Z Z Z (BJ (k) Z Z (Z) (A5 a) ey Z LU Z)) (Ao [14,11] [] Z Z (λ_=>Ck Z Z Z (DM Z Z GV Z)) (Au [3,11] Z Z (λ_=>Ck Z Z Z (Ay Z Z GV Z Z Z)) (CB 10 Z Z Z (Ad 11 Z Z (AQ Z Z Z (J (As (RO l[k] r) Z Z) (AD ⟨Z,?_⟩))))))));refine Ad 12 Z Z (AQ Z Z Z (J (BB Z Z Z) (AD ⟨Z,?_⟩)));refine Ad 13 Z Z (J (B5 Z Z Z Z) (AD ⟨Z,?_⟩));refine CM (A9 Z (λg=>?_) (λg=>?_))
  .refine AX (AZ (AE (fZ Z Z (J (Al Z Z (AM (k+1) (by omega)) Z) (AB Z Z (AD ?_))))));exact ⟨k+1,⟨by show k+1<=_;omega,by rw [ψ a];intro x b;rcases υ.1 b with b | b;exact i x b;rw [η.1 b];exact g⟩,by show l.length - (k+1)<l.length - k;omega,AY o [1] Z (Z) Qs⟩
  .refine Aw (AC (AC ?_));refine CZ [[],[],[1],[0,1,2],[0,1,2,3],rg 5,rg 5,rg 7,rg 8,rg 5,rg 10,rg 11] mixed Z (CG (Av 5 Z Z (Av 0 Z Z (AU [23] Z (Ba Z ey Z) (CB 3 Z Z Z (Ad 4 Z Z (J (BB Z Z Z) (AD ⟨Z,?_⟩))))))));refine Ad 5 Z Z (fZ Z Z (C3 26 Z (λf=>?_) (λf=>?_)))
   .refine AD ⟨Z,?_⟩;refine CG ?_
    try have a:k<l.length:=BR f
    refine Ao [0,26] [] Z Z (λ_=>Ck Z Z Z (P0 Z Z)) ?_;refine Ao [5,26] [] Z Z (λ_=>Ck Z Z Z (P0 Z Z)) (Ao [27,28,26] [] Z Z (λ_=>Ck Z Z Z (BJ (k) Z Z (Z) (A5 a) ey Z LU Z)) (Ao [29,26] [] Z Z (λ_=>Ck Z Z Z (DM Z Z GV Z)) (Au [3,26] Z Z (λ_=>Ck Z Z Z (Ay Z Z GV Z Z Z)) (CB 10 Z Z Z (Ad 11 Z Z (AQ Z Z Z (J (Fb (la:=NA l[k]) (lb:=NA r) (ds:=bQ) (by kernel_rfl) (by kernel_rfl) (by kernel_rfl) Z Z Z Z (EN _) (EN _) (NL _ _) Z) (AD ⟨Z,?_⟩))))))));refine Ad 12 Z Z (J (B5 Z Z Z Z) (AD ⟨Z,?_⟩));refine CM (A9 Z (λc=>?_) (λc=>?_))
    .refine AC (AE (fZ Z Z (AB Z Z (AD (A4 ?_)))));exact ⟨_,[],[],A2 Z,Z,Z,by rw [Lu i ((ω a).trans (by rw [c]))],Z⟩
    .refine AX (AC (AE (V (C5 20 D3 Z Z Z Z Z Z Z Z) (fZ Z Z (fZ Z Z ?_)))));refine J (kC (l) (k) Z Z Z (Z) (by omega) ey LU (λ_=>rfl) Z) (V (Qq (([]:List AT)) (l.take k) Z Z Z Z Z Z (λ_=>rfl) D3 (by simp only [jB,ϖ];omega) Z Z Z Z) (AB Z Z (AD (AC (AE (fZ Z Z (J (Ay Z Z GV Z Z Z) (V (C5 21 D3 Z Z Z Z Z Z Z Z) ?_))))))));refine V (F2 (([]++l.take k)) ([r]) Z Z Z Z Z Z Z Z D3 (by simp only [jC,ς,ϖ];omega) Z Z Z Z) ?_;refine AB Z Z (AD (AC (AE (fZ Z Z (fZ Z Z (fZ Z Z (J (D1 (l) (k) Z Z Z (Z) (by omega) ey LU (λ_=>rfl) Z) ?_)))))));refine V (Qq ((([]++l.take k)++ [r])) (l.drop k) Z Z Z Z Z Z (λ_=>rfl) D3 (by simp only [jC,Δ,ς,ϖ,jE];omega) Z Z Z Z) ?_;refine Ux (emb:=Bc) 48 20 ((([]++l.take k)++ [r])++l.drop k) Z Z Z Z Z Z Z (AB Z Z (AD (A4 ?_)));exact ⟨_,[],[],A2 Z,Z,Z,by rw [Ib h i λx b=>by first | (exact absurd (φ.1 b).1 (by omega)) | (rw [ω a] at b;injection b with b;subst b;exact ⟨g,c⟩)];rfl,Z⟩
   .refine AD ⟨Z,?_⟩;refine CG ?_
    try have a:k<l.length:=BR f
    refine Ao [0,26] [] Z Z (λ_=>EF Z Z Z Z) (Ao [5,26] [] Z Z (λ_=>EF Z Z Z Z) (Ao [27,28,26] [] Z Z (λ_=>EF Z Z Z Z) (Ao [29,26] [] Z Z (λ_=>EF Z Z Z Z) (Ao [3,26] [] Z Z (λ_=>EF Z Z Z Z) (CB 10 Z Z Z (Ad 11 Z Z (AL Z Z Z Z (AD ⟨Z,?_⟩))))))));refine Ad 12 Z Z (J (Bk Z Z Z Z) (AD ⟨Z,?_⟩));refine CM (Cm Z Z (AX (AC (AE (V (C5 20 D3 Z Z Z Z Z Z Z Z) (fZ Z Z (fZ Z Z ?_)))))));refine J (kC (l) (k) Z Z Z (Z) (by omega) ey LU (λ_=>rfl) Z) (V (Qq (([]:List AT)) (l.take k) Z Z Z Z Z Z (λ_=>rfl) D3 (by simp only [jB,ϖ];omega) Z Z Z Z) (AB Z Z (AD (AC (AE (fZ Z Z (J (Ay Z Z GV Z Z Z) (V (C5 21 D3 Z Z Z Z Z Z Z Z) ?_))))))));refine V (F2 (([]++l.take k)) ([r]) Z Z Z Z Z Z Z Z D3 (by simp only [jC,ς,ϖ];omega) Z Z Z Z) ?_;refine AB Z Z (AD (AC (AE (fZ Z Z (fZ Z Z (fZ Z Z (J (D1 (l) (k) Z Z Z (Z) (by omega) ey LU (λ_=>rfl) Z) ?_)))))));refine V (Qq ((([]++l.take k)++ [r])) (l.drop k) Z Z Z Z Z Z (λ_=>rfl) D3 (by simp only [jC,Δ,ς,ϖ,jE];omega) Z Z Z Z) ?_;refine Ux (emb:=Bc) 48 20 ((([]++l.take k)++ [r])++l.drop k) Z Z Z Z Z Z Z (AB Z Z (AD (A4 ?_)));exact ⟨_,[],[],A2 Z,Z,Z,by rw [Ib h i λx b=>by first | (exact absurd (φ.1 b).1 (by omega)) | (rw [ω a] at b;injection b with b;subst b;exact ⟨g,c⟩)];rfl,Z⟩
 .refine AD ⟨Z,?_⟩;refine CG ?_
  try have a:k<l.length:=BR j
  refine Ao [0,11] [] Z Z (λ_=>EF Z Z Z Z) (Ao [5,11] [] Z Z (λ_=>EF Z Z Z Z) (Ao [12,13,11] [] Z Z (λ_=>EF Z Z Z Z) (Ao [14,11] [] Z Z (λ_=>EF Z Z Z Z) (Ao [3,11] [] Z Z (λ_=>EF Z Z Z Z) (CB 10 Z Z Z (Ad 11 Z Z (AL Z Z Z Z (AD ⟨Z,?_⟩))))))));refine Ad 12 Z Z (AL Z Z Z Z (AD ⟨Z,?_⟩));refine Ad 13 Z Z (J (Bk Z Z Z Z) (AD ⟨Z,?_⟩));refine CM (Cm Z Z (Aw (AC (AC ?_))));refine CZ [[],[],[1],[0,1,2],[0,1,2,3],rg 5,rg 5,rg 7,rg 8,rg 5,rg 10,rg 11] mixed Z (CG (Av 5 Z Z (Av 0 Z Z (AU [23] Z (Ba Z ey Z) (CB 3 Z Z Z (Ad 4 Z Z (J (BB Z Z Z) (AD ⟨Z,?_⟩))))))));refine Ad 5 Z Z (fZ Z Z (C3 26 Z (λf=>?_) (λf=>?_)))
  .refine AD ⟨Z,?_⟩;refine CG ?_
   try have a:k<l.length:=BR f
   refine Ao [0,26] [] Z Z (λ_=>Ck Z Z Z (P0 Z Z)) ?_;refine Ao [5,26] [] Z Z (λ_=>Ck Z Z Z (P0 Z Z)) (Ao [27,28,26] [] Z Z (λ_=>Ck Z Z Z (BJ (k) Z Z (Z) (A5 a) ey Z LU Z)) (Ao [29,26] [] Z Z (λ_=>Ck Z Z Z (DM Z Z GV Z)) (Au [3,26] Z Z (λ_=>Ck Z Z Z (Ay Z Z GV Z Z Z)) (CB 10 Z Z Z (Ad 11 Z Z (AQ Z Z Z (J (Fb (la:=NA l[k]) (lb:=NA r) (ds:=bQ) (by kernel_rfl) (by kernel_rfl) (by kernel_rfl) Z Z Z Z (EN _) (EN _) (NL _ _) Z) (AD ⟨Z,?_⟩))))))));refine Ad 12 Z Z (J (B5 Z Z Z Z) (AD ⟨Z,?_⟩));refine CM (A9 Z (λc=>?_) (λc=>?_))
   .refine AC (AE (fZ Z Z (AB Z Z (AD (A4 ?_)))));exact ⟨_,[],[],A2 Z,Z,Z,by rw [Lu i ((ω a).trans (by rw [c]))],Z⟩
   .refine AX (AC (AE (V (C5 20 D3 Z Z Z Z Z Z Z Z) (fZ Z Z (fZ Z Z ?_)))));refine J (kC (l) (k) Z Z Z (Z) (by omega) ey LU (λ_=>rfl) Z) (V (Qq (([]:List AT)) (l.take k) Z Z Z Z Z Z (λ_=>rfl) D3 (by simp only [jB,ϖ];omega) Z Z Z Z) (AB Z Z (AD (AC (AE (fZ Z Z (J (Ay Z Z GV Z Z Z) (V (C5 21 D3 Z Z Z Z Z Z Z Z) ?_))))))));refine V (F2 (([]++l.take k)) ([r]) Z Z Z Z Z Z Z Z D3 (by simp only [jC,ς,ϖ];omega) Z Z Z Z) ?_;refine AB Z Z (AD (AC (AE (fZ Z Z (fZ Z Z (fZ Z Z (J (D1 (l) (k) Z Z Z (Z) (by omega) ey LU (λ_=>rfl) Z) ?_)))))));refine V (Qq ((([]++l.take k)++ [r])) (l.drop k) Z Z Z Z Z Z (λ_=>rfl) D3 (by simp only [jC,Δ,ς,ϖ,jE];omega) Z Z Z Z) ?_;refine Ux (emb:=Bc) 48 20 ((([]++l.take k)++ [r])++l.drop k) Z Z Z Z Z Z Z (AB Z Z (AD (A4 ?_)));exact ⟨_,[],[],A2 Z,Z,Z,by rw [Ib h i λx b=>by first | (exact absurd (φ.1 b).1 (by omega)) | (rw [ω a] at b;injection b with b;subst b;exact ⟨g,c⟩)];rfl,Z⟩
  .refine AD ⟨Z,?_⟩;refine CG ?_
   try have a:k<l.length:=BR f
   refine Ao [0,26] [] Z Z (λ_=>EF Z Z Z Z) (Ao [5,26] [] Z Z (λ_=>EF Z Z Z Z) (Ao [27,28,26] [] Z Z (λ_=>EF Z Z Z Z) (Ao [29,26] [] Z Z (λ_=>EF Z Z Z Z) (Ao [3,26] [] Z Z (λ_=>EF Z Z Z Z) (CB 10 Z Z Z (Ad 11 Z Z (AL Z Z Z Z (AD ⟨Z,?_⟩))))))));refine Ad 12 Z Z (J (Bk Z Z Z Z) (AD ⟨Z,?_⟩));refine CM (Cm Z Z (AX (AC (AE (V (C5 20 D3 Z Z Z Z Z Z Z Z) (fZ Z Z (fZ Z Z ?_)))))));refine J (kC (l) (k) Z Z Z (Z) (by omega) ey LU (λ_=>rfl) Z) (V (Qq (([]:List AT)) (l.take k) Z Z Z Z Z Z (λ_=>rfl) D3 (by simp only [jB,ϖ];omega) Z Z Z Z) (AB Z Z (AD (AC (AE (fZ Z Z (J (Ay Z Z GV Z Z Z) (V (C5 21 D3 Z Z Z Z Z Z Z Z) ?_))))))));refine V (F2 (([]++l.take k)) ([r]) Z Z Z Z Z Z Z Z D3 (by simp only [jC,ς,ϖ];omega) Z Z Z Z) ?_;refine AB Z Z (AD (AC (AE (fZ Z Z (fZ Z Z (fZ Z Z (J (D1 (l) (k) Z Z Z (Z) (by omega) ey LU (λ_=>rfl) Z) ?_)))))));refine V (Qq ((([]++l.take k)++ [r])) (l.drop k) Z Z Z Z Z Z (λ_=>rfl) D3 (by simp only [jC,Δ,ς,ϖ,jE];omega) Z Z Z Z) ?_;refine Ux (emb:=Bc) 48 20 ((([]++l.take k)++ [r])++l.drop k) Z Z Z Z Z Z Z (AB Z Z (AD (A4 ?_)));exact ⟨_,[],[],A2 Z,Z,Z,by rw [Ib h i λx b=>by first | (exact absurd (φ.1 b).1 (by omega)) | (rw [ω a] at b;injection b with b;subst b;exact ⟨g,c⟩)];rfl,Z⟩
theorem Iw {l:List a} {f:a ->Int} {B:Int} (h:∀x∈l,-B<=f x/\f x<=B) (n:Nat) (b:l.length<=n) (i:0<=B): -(n*B)<=(l.map f).sum/\(l.map f).sum<=n*B:=by
 induction l generalizing n with
 | nil=>have:=Int.mul_nonneg (Int.natCast_nonneg n) i;simp only [List.map_nil,List.sum_nil];omega
 | cons x l c=>
  obtain ⟨m,rfl⟩:∃m,n=m+1:=⟨n - 1,by simp at b;omega⟩
  have j:=c (λy g=>h y (by simp [g])) m (by simpa using b)
  grind
theorem Nr {b:a ->Int} (c:k<f.length):((f.take (k+1)).map b).sum=((f.take k).map b).sum+b f[k]:=by
 rw [ψ c,Ω,jY];simp
theorem u0 (a:jL i) (r:AT) (k:Nat): -256000000000000000<=((i.po.take k).map (pd r)).sum/\((i.po.take k).map (pd r)).sum<=256000000000000000:=by
 have h:=Iw (l:=i.po.take k) (f:=pd r) (B:=Mx) (λx b=>by
  have:=a.d x (iQ b);simp only [Mx] at this;unfold pd;split
  .simp only [Mx];omega
  .simp only [Mx];omega) 256 (by have:=a.po;rw [ϖ];omega) (by decide)
 grind
theorem tz (a:jL i) (r:AT) (k:Nat): -512000000000000000<=((i.pa.take k).map (yd r)).sum/\((i.pa.take k).map (yd r)).sum<=512000000000000000:=by
 have h:=Iw (l:=i.pa.take k) (f:=yd r) (B:=2*Mx) (λx b=>by
  have:=a.n x (iQ b);simp only [Mx] at this
  unfold yd tj th;simp only [Mx];(repeat' split)<;>omega) 256 (by have:=a.pa;rw [ϖ];omega) (by decide)
 grind
theorem TC (i:AI) (r:AT) (v:jL i):AK prog 103 [.d (Ag i),.d (Bc r)] (AF (La i r)):=by
 have B:=v.po;have C:=v.pa;refine At func103 Z Z ntmps103 Z Z Z λF w=>?_;refine AC (AE (V (Bo 1 Z Z Z Z Z Z Z) (V (Bo 2 Z Z Z Z Z Z Z) (AB Z Z (AD (AC (AE (AB Z Z ?_))))))));refine AD (AC (AC (AE (J (AN Z G1 Z Z Z) (J (AP Z Z Z An Z) (J (GF Z Z Z) (AD (A9 Z (λu=>?_) (λu=>?_)))))))))
 .refine AC (AC (AE (AB Z Z (AD (AZ (BO (α:=Nat×Int) (λq=>⟨92,[(2,(.ptr 1 0 0)),(3,(.ptr 2 0 0)),(5,(.d (AF q.2))),(6,(.d (AF (q.1:Int))))],[(1,[.blk 93 [.d (AF i.id),.d (AF i.pr),.d (AF i.sq),.d (.sl none (i.po.map B7)),.d (.sl none (i.pa.map Cp)),.d (.sl none (i.af.map AF))]]),(2,[.blk 98 [.d (AF r.k),.d (Am r.acc.o),.d (AF r.acc.k),.d (Am r.acc.a),.d (Am r.f),.d (Am r.t)]])]⟩) (λq=>q.1<=i.po.length/\q.2=((i.po.take q.1).map (pd r)).sum) (λq=>i.po.length - q.1) ((0,0)) (⟨ζ _,Z⟩) (AY w [1,2] Z Z E0) ?_))))));rintro ⟨k,n⟩ ⟨j,g⟩;dsimp only at j g⊢;have x:=u0 v r k;refine AC ?_;refine AC (AE (fZ Z Z (J (AN Z Cj Z Z Z) (J (AP Z Z Z IX Z) (J (Ba Z dr Z) (J (BB Z Z Z) (AD (A9 Z (λt=>?_) (λt=>?_)))))))))
  .have a:k<i.po.length:=BR t;refine AX (AC (AZ (AC (CZ [[],[0],[],[0,1,2],[0,1,2,3],rg 5,[],[6],rg 8] mixed Z (CG (AU [2] Z (AN Z Cj Z Z Z) (Au [19] Z Z (λ_=>Ae (AP Z Z Z IX Z)) (Av 6 Z Z ?_))))))));refine AU [20,21] Z (BJ (k) Z Z (Z) (A5 a) dr Z J3 Z) (AU [22] Z (WX Z FO Z Z Z) (AU [23] Z (DM Z Z Ya Z) (AU [3] Z (AN Z EU Z Z Z) (Au [25] Z Z (λ_=>Ae (Ay Z Z Ya Z Z Z)) (CB 8 Z Z Z (Ad 9 Z Z (J (Fb (la:=ND i.po[k].acc) (lb:=ND r.acc) (ds:=fE) (by kernel_rfl) (by kernel_rfl) (by kernel_rfl) Z Z Z Z (Db _) (Db _) (N9 _ _) Z) (AD ⟨Z,?_⟩))))))));refine CM (A9 Z (λs=>?_) (λs=>?_))
   .refine AE (fZ Z Z (J (AN Z Cj Z Z Z) (J (AP Z Z Z IX Z) (fZ Z Z (J (BJ (k) Z Z (Z) (A5 a) dr Z J3 Z) (J (Nc Z Ko Z Z Z) (J (CI Z Z GE Z) ?_)))))));have l:=v.d _ (ξ a);simp only [Mx] at l;refine J (Al Z Z (Ξ _ (by omega)) Z) (AB Z Z (AD (AE (fZ Z Z (J (Al Z Z (AM (k+1) (by omega)) Z) (AB Z Z (AD ?_)))))));exact ⟨(k+1,_),⟨by show k+1<=_;omega,by show _=((i.po.take (k+1)).map (pd r)).sum;rw [Nr a,<-g];unfold pd;rw [ϱ s]⟩,by show i.po.length - (k+1)<i.po.length - k;omega,AY w [1,2] Z (Z) E0⟩
   .refine AX (AE (fZ Z Z (J (Al Z Z (AM (k+1) (by omega)) Z) (AB Z Z (AD ?_)))));exact ⟨(k+1,_),⟨by show k+1<=_;omega,by show _=((i.po.take (k+1)).map (pd r)).sum;rw [Nr a,<-g];unfold pd;rw [θ s];exact (Int.add_zero _).symm⟩,by show i.po.length - (k+1)<i.po.length - k;omega,AY w [1,2] Z (Z) E0⟩
  .refine Aw (AC (AE (fZ Z Z (AB Z Z (AD (A4 ?_))))));exact ⟨_,[],[],A2 Z,Z,Z,Ab (by unfold La;rw [ϱ u,g,κ (by have h:=t;omega)]),Z⟩
 .refine AX (AC (AC (AE (AB Z Z (AD (AZ (BO (α:=Nat×Int) (λq=>⟨92,[(2,(.ptr 1 0 0)),(3,(.ptr 2 0 0)),(5,(.d (AF q.2))),(7,(.d (AF (q.1:Int))))],[(1,[.blk 93 [.d (AF i.id),.d (AF i.pr),.d (AF i.sq),.d (.sl none (i.po.map B7)),.d (.sl none (i.pa.map Cp)),.d (.sl none (i.af.map AF))]]),(2,[.blk 98 [.d (AF r.k),.d (Am r.acc.o),.d (AF r.acc.k),.d (Am r.acc.a),.d (Am r.f),.d (Am r.t)]])]⟩) (λq=>q.1<=i.pa.length/\q.2=((i.pa.take q.1).map (yd r)).sum) (λq=>i.pa.length - q.1) ((0,0)) (⟨ζ _,Z⟩) (AY w [1,2] Z Z E0) ?_)))))));rintro ⟨k,n⟩ ⟨j,g⟩;dsimp only at j g⊢;have x:=tz v r k;refine AC ?_;refine AC (AE (fZ Z Z (J (AN Z G2 Z Z Z) (J (AP Z Z Z P9 Z) (J (Ba Z fV Z) (J (BB Z Z Z) (AD (A9 Z (λo=>?_) (λo=>?_)))))))))
  .have a:k<i.pa.length:=BR o;refine AX (AC (AZ (AC (AE ?_))));have l:=v.n _ (ξ a);simp only [Mx] at l;refine J (AN Z G2 Z Z Z) (J (AP Z Z Z P9 Z) (fZ Z Z (J (BJ (k) Z Z (Z) (A5 a) fV Z Nq Z) (J (DM Z Z Wo Z) (V (By 3 aG Z Z Z Z) (V (B3 Z Z Z Z Z Z Z Nq) (AD (AC ?_))))))));refine AC (AE (J (AN Z Eb Z Z Z) (J (AP Z Z Z CK Z) (J (AN Z Ew Z Z Z) (J (AP Z Z Z CK Z) (J (Jx Z Z Z) (fZ Z Z (C3 54 Z (λA=>?_) (λA=>?_)))))))));refine AQ Z Z Z (J (AN Z G1 Z Z Z) (AQ Z Z Z (J (AP Z Z Z An Z) (AQ Z Z Z (J (GF Z Z Z) (AQ Z Z Z (fZ Z Z (C3 58 Z (λz=>?_) (λz=>?_)))))))));refine AL Z Z Z Z (AL Z Z Z Z (AL Z Z Z Z (AL Z Z Z Z (AL Z Z Z Z (AQ Z Z Z (J (B5 Z Z Z Z) (J (B5 Z Z Z Z) ?_)))))));refine AD (Bx Z Z (AE (fZ Z Z (J (AN Z DN Z Z Z) (J (AP Z Z Z GE Z) (J (PS Z Z (Ξ _ (by omega)) Z) (AB Z Z (AD ?_))))))));refine AC (AE (J (AN Z Ea Z Z Z) (J (AP Z Z Z CK Z) (J (AN Z Ew Z Z Z) (J (AP Z Z Z CK Z) (J (Jx Z Z Z) (fZ Z Z (C3 75 Z (λf=>?_) (λf=>?_)))))))));refine AQ Z Z Z (J (AN Z G1 Z Z Z) (AQ Z Z Z (J (AP Z Z Z An Z) (AQ Z Z Z (J (GF Z Z Z) (AQ Z Z Z (fZ Z Z (C3 79 Z (λc=>?_) (λc=>?_)))))))));refine AL Z Z Z Z (AL Z Z Z Z (AL Z Z Z Z (AL Z Z Z Z (AL Z Z Z Z (AQ Z Z Z (J (B5 Z Z Z Z) (J (B5 Z Z Z Z) ?_)))))));refine AD (Bx Z Z (AE (fZ Z Z (J (AN Z DN Z Z Z) (J (AP Z Z Z GE Z) (J (Al Z Z (Ξ _ (by omega)) Z) (AB Z Z (AD ?_))))))))
   rotate_left
   refine AQ Z Z Z (J (AN Z Eb Z Z Z) (AQ Z Z Z (J (AP Z Z Z CK Z) (AQ Z Z Z (J (AN Z Ev Z Z Z) ?_)))));refine AQ Z Z Z (J (AP Z Z Z CK Z) (AQ Z Z Z (J (Jx Z Z Z) (AQ Z Z Z (J (Bk Z Z Z Z) (J (B5 Z Z Z Z) (AD (A9 Z (λb=>?_) (λb=>?_)))))))));refine AE (fZ Z Z (J (AN Z DN Z Z Z) (J (AP Z Z Z GE Z) (J (Al Z Z (Ξ _ (by omega)) Z) (AB Z Z (AD ?_))))))
   rotate_left
   refine AX ?_
   rotate_left
   refine AL Z Z Z Z (AL Z Z Z Z (AL Z Z Z Z (AL Z Z Z Z (Jv Z Z Z ?_))));refine Jv Z Z Z (Jv Z Z Z (Jv Z Z Z (Jv Z Z Z (AL Z Z Z Z (J (Bk Z Z Z Z) (AD (Cm Z Z (AX ?_))))))))
   rotate_left
   refine AQ Z Z Z (J (AN Z Ea Z Z Z) (AQ Z Z Z (J (AP Z Z Z CK Z) (AQ Z Z Z (J (AN Z Ev Z Z Z) ?_)))));refine AQ Z Z Z (J (AP Z Z Z CK Z) (AQ Z Z Z (J (Jx Z Z Z) (AQ Z Z Z (J (Bk Z Z Z Z) (J (B5 Z Z Z Z) (AD (A9 Z (λy=>?_) (λy=>?_)))))))));refine AE (fZ Z Z (J (AN Z DN Z Z Z) (J (AP Z Z Z GE Z) (J (PS Z Z (Ξ _ (by omega)) Z) (AB Z Z (AD ?_))))));refine AC (AE (J (AN Z Ea Z Z Z) (J (AP Z Z Z CK Z) (J (AN Z Ew Z Z Z) (J (AP Z Z Z CK Z) (J (Jx Z Z Z) (fZ Z Z (C3 75 Z (λf=>?_) (λf=>?_)))))))));refine AQ Z Z Z (J (AN Z G1 Z Z Z) (AQ Z Z Z (J (AP Z Z Z An Z) (AQ Z Z Z (J (GF Z Z Z) (AQ Z Z Z (fZ Z Z (C3 79 Z (λc=>?_) (λc=>?_)))))))));refine AL Z Z Z Z (AL Z Z Z Z (AL Z Z Z Z (AL Z Z Z Z (AL Z Z Z Z (AQ Z Z Z (J (B5 Z Z Z Z) (J (B5 Z Z Z Z) ?_)))))));refine AD (Bx Z Z (AE (fZ Z Z (J (AN Z DN Z Z Z) (J (AP Z Z Z GE Z) (J (Al Z Z (Ξ _ (by omega)) Z) (AB Z Z (AD ?_))))))))
   rotate_left
   refine AQ Z Z Z (J (AN Z Eb Z Z Z) (AQ Z Z Z (J (AP Z Z Z CK Z) (AQ Z Z Z (J (AN Z Ev Z Z Z) ?_)))));refine AQ Z Z Z (J (AP Z Z Z CK Z) (AQ Z Z Z (J (Jx Z Z Z) (AQ Z Z Z (J (Bk Z Z Z Z) (J (B5 Z Z Z Z) (AD (A9 Z (λb=>?_) (λb=>?_)))))))));refine AE (fZ Z Z (J (AN Z DN Z Z Z) (J (AP Z Z Z GE Z) (J (Al Z Z (Ξ _ (by omega)) Z) (AB Z Z (AD ?_))))))
   rotate_left
   refine AX ?_
   rotate_left
   refine AL Z Z Z Z (AL Z Z Z Z (AL Z Z Z Z (AL Z Z Z Z (Jv Z Z Z ?_))));refine Jv Z Z Z (Jv Z Z Z (Jv Z Z Z (Jv Z Z Z (AL Z Z Z Z (J (Bk Z Z Z Z) (AD (Cm Z Z (AX ?_))))))))
   rotate_left
   refine AX ?_;refine AC (AE (J (AN Z Ea Z Z Z) (J (AP Z Z Z CK Z) (J (AN Z Ew Z Z Z) (J (AP Z Z Z CK Z) (J (Jx Z Z Z) (fZ Z Z (C3 75 Z (λf=>?_) (λf=>?_)))))))));refine AQ Z Z Z (J (AN Z G1 Z Z Z) (AQ Z Z Z (J (AP Z Z Z An Z) (AQ Z Z Z (J (GF Z Z Z) (AQ Z Z Z (fZ Z Z (C3 79 Z (λc=>?_) (λc=>?_)))))))));refine AL Z Z Z Z (AL Z Z Z Z (AL Z Z Z Z (AL Z Z Z Z (AL Z Z Z Z (AQ Z Z Z (J (B5 Z Z Z Z) (J (B5 Z Z Z Z) ?_)))))));refine AD (Bx Z Z (AE (fZ Z Z (J (AN Z DN Z Z Z) (J (AP Z Z Z GE Z) (J (Al Z Z (Ξ _ (by omega)) Z) (AB Z Z (AD ?_))))))))
   rotate_left
   refine AQ Z Z Z (J (AN Z Eb Z Z Z) (AQ Z Z Z (J (AP Z Z Z CK Z) (AQ Z Z Z (J (AN Z Ev Z Z Z) ?_)))));refine AQ Z Z Z (J (AP Z Z Z CK Z) (AQ Z Z Z (J (Jx Z Z Z) (AQ Z Z Z (J (Bk Z Z Z Z) (J (B5 Z Z Z Z) (AD (A9 Z (λb=>?_) (λb=>?_)))))))));refine AE (fZ Z Z (J (AN Z DN Z Z Z) (J (AP Z Z Z GE Z) (J (Al Z Z (Ξ _ (by omega)) Z) (AB Z Z (AD ?_))))))
   rotate_left
   refine AX ?_
   rotate_left
   refine AL Z Z Z Z (AL Z Z Z Z (AL Z Z Z Z (AL Z Z Z Z (Jv Z Z Z ?_))));refine Jv Z Z Z (Jv Z Z Z (Jv Z Z Z (Jv Z Z Z (AL Z Z Z Z (J (Bk Z Z Z Z) (AD (Cm Z Z (AX ?_))))))))
   rotate_left
   refine AL Z Z Z Z (AL Z Z Z Z (AL Z Z Z Z (AL Z Z Z Z (Jv Z Z Z ?_))));refine Jv Z Z Z (Jv Z Z Z (Jv Z Z Z (Jv Z Z Z (AL Z Z Z Z (J (Bk Z Z Z Z) (AD (Cm Z Z (AX ?_))))))));refine AC (AE (J (AN Z Ea Z Z Z) (J (AP Z Z Z CK Z) (J (AN Z Ew Z Z Z) (J (AP Z Z Z CK Z) (J (Jx Z Z Z) (fZ Z Z (C3 75 Z (λf=>?_) (λf=>?_)))))))));refine AQ Z Z Z (J (AN Z G1 Z Z Z) (AQ Z Z Z (J (AP Z Z Z An Z) (AQ Z Z Z (J (GF Z Z Z) (AQ Z Z Z (fZ Z Z (C3 79 Z (λc=>?_) (λc=>?_)))))))));refine AL Z Z Z Z (AL Z Z Z Z (AL Z Z Z Z (AL Z Z Z Z (AL Z Z Z Z (AQ Z Z Z (J (B5 Z Z Z Z) (J (B5 Z Z Z Z) ?_)))))));refine AD (Bx Z Z (AE (fZ Z Z (J (AN Z DN Z Z Z) (J (AP Z Z Z GE Z) (J (Al Z Z (Ξ _ (by omega)) Z) (AB Z Z (AD ?_))))))))
   rotate_left
   refine AQ Z Z Z (J (AN Z Eb Z Z Z) (AQ Z Z Z (J (AP Z Z Z CK Z) (AQ Z Z Z (J (AN Z Ev Z Z Z) ?_)))));refine AQ Z Z Z (J (AP Z Z Z CK Z) (AQ Z Z Z (J (Jx Z Z Z) (AQ Z Z Z (J (Bk Z Z Z Z) (J (B5 Z Z Z Z) (AD (A9 Z (λb=>?_) (λb=>?_)))))))));refine AE (fZ Z Z (J (AN Z DN Z Z Z) (J (AP Z Z Z GE Z) (J (Al Z Z (Ξ _ (by omega)) Z) (AB Z Z (AD ?_))))))
   rotate_left
   refine AX ?_
   rotate_left
   refine AL Z Z Z Z (AL Z Z Z Z (AL Z Z Z Z (AL Z Z Z Z (Jv Z Z Z ?_))));refine Jv Z Z Z (Jv Z Z Z (Jv Z Z Z (Jv Z Z Z (AL Z Z Z Z (J (Bk Z Z Z Z) (AD (Cm Z Z (AX ?_))))))))
   all_goals
    refine AE (fZ Z Z (J (Al Z Z (AM (k+1) (by omega)) Z) (AB Z Z (AD ?_))));exact ⟨(k+1,_),⟨by show k+1<=_;omega,by show _=((i.pa.take (k+1)).map (yd r)).sum;rw [Nr a,<-g];unfold yd tj th;(repeat' split)<;>first | omega | (exfalso;simp_all;done)⟩,by show i.pa.length - (k+1)<i.pa.length - k;omega,AY w [1,2] Z (Z) E0⟩
  .refine Aw (AC (AE (fZ Z Z (AB Z Z (AD (A4 ?_))))));exact ⟨_,[],[],A2 Z,Z,Z,Ab (by unfold La;rw [θ u,g,κ (by have h:=o;omega)]),Z⟩
def Es (i:AI):Int:=BM [Ff i,KO i,NC i]
theorem D5 (h:c=Ff i) (a:c≠0):c=Es i:=by grind [Es,BM]
theorem Fh (a:Ff i=0) (h:c=KO i) (b:c≠0):c=Es i:=by grind [Es,BM]
theorem HZ (b:Ff i=0) (a:KO i=0) (h:c=NC i):c=Es i:=by grind [Es,BM]
theorem lC (i:AI) (M:i.po.length<=1000) (L:i.pa.length<=1000) (K:i.af.length<=1000):AK prog 101 [.d (Ag i)] (AF (Es i)):=by
 refine At func101 Z Z ntmps101 Z Z Z λF s=>(AC (AE (V (Bo 1 Z Z Z Z Z Z Z) ?_)));refine AB Z Z (AD (AC (AC (AE (AB Z Z (AD (AZ (BO (α:=Nat) (λk=>⟨121,[(1,(.ptr 1 0 0)),(3,(.d (AF (k:Int))))],[(1,[.blk 93 [.d (AF i.id),.d (AF i.pr),.d (AF i.sq),.d (.sl none (i.po.map B7)),.d (.sl none (i.pa.map Cp)),.d (.sl none (i.af.map AF))]])]⟩) (λk=>k<=i.po.length/\Ff i=BM ((i.po.drop k).map IU)) (λk=>i.po.length - k) (0) (⟨ζ _,Z⟩) (AY s [1] Z Z ⟨Z,Z,trivial⟩) ?_))))))));rintro k ⟨t,j⟩;refine AC ?_;refine AC (AE (fZ Z Z (J (AN Z Cj Z Z Z) (J (AP Z Z Z IX Z) (J (Ba Z dr Z) (J (BB Z Z Z) (AD (A9 Z (λr=>?_) (λr=>?_)))))))))
 .have a:k<i.po.length:=BR r;refine AX (AC (AZ (AC (AE ?_))));have c:=kB a j;refine J (AN Z Cj Z Z Z) (J (AP Z Z Z IX Z) (fZ Z Z (J (BJ (k) Z Z (Z) (A5 a) dr Z J3 Z) (J (DM Z Z sH Z) (V (By 2 rU Z Z Z Z) (V (B3 Z Z Z Z Z Z Z J3) (AD ?_)))))));refine AZ (AC (AE (J (AN Z FO Z Z Z) (J (AN Z Rj Z Z Z) (J (AP Z Z Z CK Z) (J (Jx Z Z Z) (fZ Z Z (C3 25 Z (λH=>?_) (λH=>?_)))))))))
  .refine AL Z Z Z Z (AL Z Z Z Z (AL Z Z Z Z (AL Z Z Z Z ?_)));refine J (B5 Z Z Z Z) (AB Z Z (AD (Bx Z Z (AC (AE (AB Z Z (AD (A4 ?_))))))));exact ⟨_,[],[],A2 Z,Z,Z,Ab (D5 (c.2 6 (by unfold IU;rw [ϱ (by simp_all)]) (by decide)) (by decide)),Z⟩
  .refine AQ Z Z Z (J (AN Z FO Z Z Z) (AQ Z Z Z ?_));refine J (AN Z MA Z Z Z) (AQ Z Z Z (J (AP Z Z Z CK Z) (AQ Z Z Z (J (Jx Z Z Z) (J (Bk Z Z Z Z) (AB Z Z (AD (A9 Z (λI=>?_) (λI=>?_)))))))))
   .refine AC (AE (AB Z Z (AD (A4 ?_))));exact ⟨_,[],[],A2 Z,Z,Z,Ab (D5 (c.2 6 (by unfold IU;rw [ϱ (by simp_all)]) (by decide)) (by decide)),Z⟩
   .refine AC (AE (J (AN Z FO Z Z Z) (J (AN Z MB Z Z Z) (J (AP Z Z Z An Z) (J (BB Z Z Z) (fZ Z Z (C3 36 Z (λE=>?_) (λE=>?_))))))))
    .refine AL Z Z Z Z (AL Z Z Z Z (AL Z Z Z Z (AL Z Z Z Z ?_)));refine J (B5 Z Z Z Z) (AB Z Z (AD (Bx Z Z (AC (AE (AB Z Z (AD (A4 ?_))))))));exact ⟨_,[],[],A2 Z,Z,Z,Ab (D5 (c.2 11 (by unfold IU;rw [θ (by simp_all),ϱ (by omega)]) (by decide)) (by decide)),Z⟩
    .refine AQ Z Z Z (J (AN Z FO Z Z Z) (AQ Z Z Z ?_));refine J (AN Z MB Z Z Z) (AQ Z Z Z (J (AP Z Z Z An Z) (AQ Z Z Z (J (HF Z Z Z) (J (Bk Z Z Z Z) (AB Z Z (AD (A9 Z (λG=>?_) (λG=>?_)))))))))
     .refine AC (AE (AB Z Z (AD (A4 ?_))));exact ⟨_,[],[],A2 Z,Z,Z,Ab (D5 (c.2 11 (by unfold IU;rw [θ (by simp_all),ϱ (by omega)]) (by decide)) (by decide)),Z⟩
     .refine AC (AE (J (AN Z Ko Z Z Z) (J (AP Z Z Z GE Z) (J (BB Z Z Z) (fZ Z Z (C3 46 Z (λC=>?_) (λC=>?_)))))))
      .refine AL Z Z Z Z (AL Z Z Z Z (AL Z Z Z Z ?_));refine J (B5 Z Z Z Z) (AB Z Z (AD (Bx Z Z (AC (AE (AB Z Z (AD (A4 ?_))))))));exact ⟨_,[],[],A2 Z,Z,Z,Ab (D5 (c.2 12 (by unfold IU;rw [θ (by simp_all),θ (by omega),ϱ (by simp only [Mx];omega)]) (by decide)) (by decide)),Z⟩
      .refine AQ Z Z Z ?_;refine J (AN Z Ko Z Z Z) (AQ Z Z Z (J (AP Z Z Z GE Z) (AQ Z Z Z (J (HF Z Z Z) (J (Bk Z Z Z Z) (AB Z Z (AD (A9 Z (λD=>?_) (λD=>?_)))))))))
       .refine AC (AE (AB Z Z (AD (A4 ?_))));exact ⟨_,[],[],A2 Z,Z,Z,Ab (D5 (c.2 12 (by unfold IU;rw [θ (by simp_all),θ (by omega),ϱ (by simp only [Mx];omega)]) (by decide)) (by decide)),Z⟩
       .refine AX (AE (fZ Z Z (J (Al Z Z (AM (k+1) (by omega)) Z) (AB Z Z (AD ?_)))));exact ⟨k+1,⟨by show k+1<=_;omega,c.1 (by unfold IU;rw [θ (by simp_all),θ (by omega),θ (by simp only [Mx];omega)])⟩,by show i.po.length - (k+1)<i.po.length - k;omega,AY s [1] Z (Z) ⟨Z,Z,trivial⟩⟩
 .refine Aw (AC (AC ?_));have b:Ff i=0:=by rw [j,DK (by have h:=r;omega)]
  refine AE (AB Z Z (AD (AZ (BO (α:=Nat) (λk=>⟨121,[(1,(.ptr 1 0 0)),(5,(.d (AF (k:Int))))],[(1,[.blk 93 [.d (AF i.id),.d (AF i.pr),.d (AF i.sq),.d (.sl none (i.po.map B7)),.d (.sl none (i.pa.map Cp)),.d (.sl none (i.af.map AF))]])]⟩) (λk=>k<=i.pa.length/\KO i=BM ((i.pa.drop k).map JS)) (λk=>i.pa.length - k) (0) (⟨ζ _,Z⟩) (AY s [1] Z Z ⟨Z,Z,trivial⟩) ?_))));rintro k ⟨t,j⟩;refine AC ?_;refine AC (AE (fZ Z Z (J (AN Z G2 Z Z Z) (J (AP Z Z Z P9 Z) (J (Ba Z fV Z) (J (BB Z Z Z) (AD (A9 Z (λo=>?_) (λo=>?_)))))))))
  .have a:k<i.pa.length:=BR o;refine AX (AC (AZ (AC (AE ?_))));have c:=kB a j;refine J (AN Z G2 Z Z Z) (J (AP Z Z Z P9 Z) (fZ Z Z (J (BJ (k) Z Z (Z) (A5 a) fV Z Nq Z) (J (DM Z Z Wo Z) (V (By 3 aG Z Z Z Z) (V (B3 Z Z Z Z Z Z Z Nq) ?_))))));refine AD (AZ (AC (AE (J (AN Z Eb Z Z Z) (J (AP Z Z Z CK Z) (J (Jx Z Z Z) (fZ Z Z (C3 67 Z (λA=>?_) (λA=>?_)))))))))
   .refine AL Z Z Z Z (AL Z Z Z Z (AL Z Z Z Z ?_));refine J (B5 Z Z Z Z) (AB Z Z (AD (Bx Z Z (AC (AE (AB Z Z (AD (A4 ?_))))))));exact ⟨_,[],[],A2 Z,Z,Z,Ab (Fh b (c.2 6 (by unfold JS;rw [ϱ (by simp_all)]) (by decide)) (by decide)),Z⟩
   .refine AQ Z Z Z ?_;refine J (AN Z Ea Z Z Z) (AQ Z Z Z (J (AP Z Z Z CK Z) (AQ Z Z Z (J (Jx Z Z Z) (J (Bk Z Z Z Z) (AB Z Z (AD (A9 Z (λB=>?_) (λB=>?_)))))))))
    .refine AC (AE (AB Z Z (AD (A4 ?_))));exact ⟨_,[],[],A2 Z,Z,Z,Ab (Fh b (c.2 6 (by unfold JS;rw [ϱ (by simp_all)]) (by decide)) (by decide)),Z⟩
    .refine AC ?_;refine AE (J (AN Z Eb Z Z Z) (J (AP Z Z Z CK Z) (J (AN Z Ea Z Z Z) (J (AP Z Z Z CK Z) (J (Jx Z Z Z) (AB Z Z (AD (A9 Z (λz=>?_) (λz=>?_)))))))))
     .refine AC (AE (AB Z Z (AD (A4 ?_))));exact ⟨_,[],[],A2 Z,Z,Z,Ab (Fh b (c.2 7 (by unfold JS;rw [θ (by simp_all),ϱ (by simp_all)]) (by decide)) (by decide)),Z⟩
     .refine AC (AE (J (AN Z DN Z Z Z) (J (AP Z Z Z GE Z) (J (BB Z Z Z) (fZ Z Z (C3 82 Z (λx=>?_) (λx=>?_)))))))
      .refine AL Z Z Z Z (AL Z Z Z Z (AL Z Z Z Z ?_));refine J (B5 Z Z Z Z) (AB Z Z (AD (Bx Z Z (AC (AE (AB Z Z (AD (A4 ?_))))))));exact ⟨_,[],[],A2 Z,Z,Z,Ab (Fh b (c.2 2 (by unfold JS;rw [θ (by simp_all),θ (by simp_all),ϱ (by simp only [Mx];omega)]) (by decide)) (by decide)),Z⟩
      .refine AQ Z Z Z ?_;refine J (AN Z DN Z Z Z) (AQ Z Z Z (J (AP Z Z Z GE Z) (AQ Z Z Z (J (HF Z Z Z) (J (Bk Z Z Z Z) (AB Z Z (AD (A9 Z (λy=>?_) (λy=>?_)))))))))
       .refine AC (AE (AB Z Z (AD (A4 ?_))));exact ⟨_,[],[],A2 Z,Z,Z,Ab (Fh b (c.2 2 (by unfold JS;rw [θ (by simp_all),θ (by simp_all),ϱ (by simp only [Mx];omega)]) (by decide)) (by decide)),Z⟩
       .refine AX (AE (fZ Z Z (J (Al Z Z (AM (k+1) (by omega)) Z) (AB Z Z (AD ?_)))));exact ⟨k+1,⟨by show k+1<=_;omega,c.1 (by unfold JS;rw [θ (by simp_all),θ (by simp_all),θ (by simp only [Mx];omega)])⟩,by show i.pa.length - (k+1)<i.pa.length - k;omega,AY s [1] Z (Z) ⟨Z,Z,trivial⟩⟩
  .refine Aw (AC (AC ?_));have f:KO i=0:=by rw [j,DK (by have h:=o;omega)]
   refine AE (AB Z Z (AD (AZ (BO (α:=Nat) (λk=>⟨121,[(1,(.ptr 1 0 0)),(7,(.d (AF (k:Int))))],[(1,[.blk 93 [.d (AF i.id),.d (AF i.pr),.d (AF i.sq),.d (.sl none (i.po.map B7)),.d (.sl none (i.pa.map Cp)),.d (.sl none (i.af.map AF))]])]⟩) (λk=>k<=i.af.length/\NC i=BM (((List.range i.af.length).drop k).map (MT i.id i.af))) (λk=>i.af.length - k) (0) (⟨ζ _,Z⟩) (AY s [1] Z Z ⟨Z,Z,trivial⟩) ?_))));rintro k ⟨t,j⟩;refine AC ?_;refine AC (AE (fZ Z Z (J (AN Z Cz Z Z Z) (J (AP Z Z Z BL Z) (J (Ba Z ch Z) (J (BB Z Z Z) (AD (A9 Z (λl=>?_) (λl=>?_)))))))))
   .have a:k<i.af.length:=BR l;refine AX (AC (AZ (AC (AC (AE ?_)))));have c:=nF a j;have g:i.af.getD k 0=i.af[k]:=by rw [Φ,ω a];rfl
    refine J (AN Z Cz Z Z Z) (J (AP Z Z Z BL Z) (fZ Z Z (J (BJ (k) Z Z (Z) (A5 a) ch Z BU Z) (J (CI Z Z An Z) (J (As (IT i.af[k]) Z Z) (J (Jw Z Z) (AD (A9 Z (λw=>?_) (λw=>?_)))))))))
    .refine AC (AE (AB Z Z (AD (A4 ?_))));exact ⟨_,[],[],A2 Z,Z,Z,Ab (HZ b f (c.2 2 (by unfold MT;rw [g,ϱ (by simp_all)]) (by decide))),Z⟩
    .refine AX (AC (CZ [[],[0],[],[0,1,2],[0,1,2,3],[],[5],rg 7,rg 8,rg 9,rg 10,rg 9,rg 12,rg 9,[0,1,2,3,4,5,6,7,8,13],rg 9,[0,1,2,3,4,5,6,7,8,13,14,15],[0,1,2,3,4,5,6,7,8,13,14,15,16],rg 18,rg 19] mixed Z (CG (AU [1] Z (AN Z Cz Z Z Z) (Au [101] Z Z (λ_=>Ae (AP Z Z Z BL Z)) ?_)))));refine Av 7 Z Z (AU [102,103] Z (BJ (k) Z Z (Z) (A5 a) ch Z BU Z) (AU [104] Z (CI Z Z An Z) (AU [1] Z (AN Z Hi Z Z Z) (Au [106] Z Z (λ_=>Ae (AP Z Z Z An Z)) (CB 7 Z Z Z (Ad 8 Z Z (J (GF Z Z Z) (AD ⟨Z,?_⟩))))))));refine Ad 9 Z Z (fZ Z Z (C3 109 Z (λv=>?_) (λv=>?_)))
     .refine AD ⟨Z,?_⟩;refine CG (Ao [1,109] [] Z Z (λ_=>EF Z Z Z Z) (Ao [110,109] [] Z Z (λ_=>EF Z Z Z Z) (Ao [7,109] [] Z Z (λ_=>EF Z Z Z Z) (Ao [111,112,109] [] Z Z (λ_=>EF Z Z Z Z) ?_))));refine Ao [1,109] [] Z Z (λ_=>EF Z Z Z Z) (Ao [114,109] [] Z Z (λ_=>EF Z Z Z Z) (Ao [7,109] [] Z Z (λ_=>EF Z Z Z Z) (Ao [115,116,109] [] Z Z (λ_=>EF Z Z Z Z) (Ao [117,109] [] Z Z (λ_=>EF Z Z Z Z) (CB 18 Z Z Z (Ad 19 Z Z (AL Z Z Z Z (AD ⟨Z,?_⟩))))))));refine Ad 20 Z Z (J (B5 Z Z Z Z) (AD ⟨Z,?_⟩));refine CM (Bx Z Z (AC (AE (AB Z Z (AD (A4 ?_))))));exact ⟨_,[],[],A2 Z,Z,Z,Ab (HZ b f (c.2 7 (by unfold MT;rw [g,θ (by simp_all),ϱ (by simp_all)]) (by decide))),Z⟩
     .refine AD ⟨Z,?_⟩;refine CG (Ao [1,109] [] Z Z (λ_=>Ck Z Z Z (AN Z Cz Z Z Z)) (Au [110,109] Z Z (λ_=>Ck Z Z Z (AP Z Z Z BL Z)) (Ao [7,109] [] Z Z (λ_=>Ck Z Z Z (P0 Z Z)) (Ao [111,112,109] [] Z Z (λ_=>Ck Z Z Z (kC (i.af) (k) Z Z Z (Z) (by omega) ch BU (λ_=>rfl) Z)) (Ao [1,109] [] Z Z (λ_=>Ck Z Z Z (AN Z Cz Z Z Z)) ?_)))));refine Au [114,109] Z Z (λ_=>Ck Z Z Z (AP Z Z Z BL Z)) (Ao [7,109] [] Z Z (λ_=>Ck Z Z Z (P0 Z Z)) (Ao [115,116,109] [] Z Z (λ_=>Ck Z Z Z (BJ (k) Z Z (Z) (A5 a) ch Z BU Z)) (Ao [117,109] [] Z Z (λ_=>Ck Z Z Z (CI Z Z An Z)) (CB 18 Z Z Z (Ad 19 Z Z (AQ Z Z Z (J (As (tG (i.af.take k) i.af[k] (by rw [ϖ];omega)) Z Z) (AD ⟨Z,?_⟩))))))));refine Ad 20 Z Z (J (Bk Z Z Z Z) (AD ⟨Z,?_⟩));refine CM (A9 Z (λu=>?_) (λu=>?_))
      .refine AC (AE (AB Z Z (AD (A4 ?_))));exact ⟨_,[],[],A2 Z,Z,Z,Ab (HZ b f (c.2 7 (by unfold MT;rw [g,θ (by simp_all),ϱ (by simp_all)]) (by decide))),Z⟩
      .refine AX (AE (fZ Z Z (J (Al Z Z (AM (k+1) (by omega)) Z) (AB Z Z (AD ?_)))));exact ⟨k+1,⟨by show k+1<=_;omega,c.1 (by unfold MT;rw [g,θ (by simp_all),θ (by simp_all)])⟩,by show i.af.length - (k+1)<i.af.length - k;omega,AY s [1] Z (Z) ⟨Z,Z,trivial⟩⟩
   .refine Aw (AC (AE (AB Z Z (AD (A4 ?_)))));exact ⟨_,[],[],A2 Z,Z,Z,Ab (HZ b f (by rw [j,jt (by have h:=l;simp only [gw];omega)];rfl)),Z⟩
theorem rl (c:List (AT×Int)) (p:MW):gI (c++ML p)=C7 (C7 (C7 (C7 (gI c) (CE p.f p.t)) (CE p.t p.f)) (DH p.f)) (DH p.t):=by grind [ML,gI]
theorem rk {l:List FT} (a:k<l.length):gI (Dy (l.take (k+1)))=C7 (gI (Dy (l.take k))) (Gl l[k]):=by rw [Qg a,Iv]
theorem rf {c:List (AT×Int)} {l:List MW} (a:k<l.length):gI (c++HB (l.take (k+1)))=C7 (C7 (C7 (C7 (gI (c++HB (l.take k))) (CE l[k].f l[k].t)) (CE l[k].t l[k].f)) (DH l[k].f)) (DH l[k].t):=by rw [Qf a,<-ji,rl]
theorem YP (i:AI) (A:i.po.length<=1000) (z:i.pa.length<=1000):AK prog 102 [.d (Ag i)] (.sl none ((gI (gN i)).map Bc)):=by
 refine At func102 Z Z ntmps102 Z Z Z λF r=>(AC (AE ?_));refine V (Bo 1 Z Z Z Z Z Z Z) (AB Z Z (AD (AC (AE (AB Z Z (AD (AC (AC ?_))))))));refine Uk 3 Z ?_;refine AE (AB Z Z (AD (AZ (BO (α:=Nat×List AT) (λq=>⟨60,[(1,(.ptr 1 0 0)),(3,(.d (.sl none (q.2.map Bc)))),(4,(.d (AF (q.1:Int))))],[(1,[.blk 93 [.d (AF i.id),.d (AF i.pr),.d (AF i.sq),.d (.sl none (i.po.map B7)),.d (.sl none (i.pa.map Cp)),.d (.sl none (i.af.map AF))]])]⟩) (λq=>q.1<=i.po.length/\q.2=gI (Dy (i.po.take q.1))) (λq=>i.po.length - q.1) ((0,[])) (⟨ζ _,Z⟩) (AY r [1] Z Z Qs) ?_))));rintro ⟨k,L⟩ ⟨u,o⟩;dsimp only at u o⊢;refine AC ?_;refine AC (AE (fZ Z Z (J (AN Z Cj Z Z Z) (J (AP Z Z Z IX Z) (J (Ba Z dr Z) (J (BB Z Z Z) (AD (A9 Z (λb=>?_) (λb=>?_)))))))))
 .have j:k<i.po.length:=BR b;refine AX (AC (AZ (AE ?_)));have g:L.length<=1000:=by rw [o];have:=Nk (Dy (i.po.take k));simp only [Dy,χ,ϖ] at this;simp only [Dy];omega
  refine fZ Z Z (J (AN Z Cj Z Z Z) (J (AP Z Z Z IX Z) (fZ Z Z (J (BJ (k) Z Z (Z) (A5 j) dr Z J3 Z) (J (WX Z FO Z Z Z) (J (DM Z Z Ya Z) ?_))))));refine J (FD YG bq Z Z Z) (J (As (Ia L (Gl i.po[k]) (by omega)) Z Z) (AB Z Z (AD (AE (fZ Z Z (J (Al Z Z (AM (k+1) (by omega)) Z) (AB Z Z (AD ?_))))))));exact ⟨(k+1,_),⟨by show k+1<=_;omega,by show _=gI (Dy (i.po.take (k+1)));rw [rk j,<-o]⟩,by show i.po.length - (k+1)<i.po.length - k;omega,AY r [1] Z (Z) Qs⟩
 .refine Aw (AC (AC ?_));have v:L=gI (Dy i.po++HB (i.pa.take 0)):=by rw [o,κ (by have h:=b;omega)];simp [HB]
  refine AE (AB Z Z (AD (AZ (BO (α:=Nat×List AT) (λq=>⟨60,[(1,(.ptr 1 0 0)),(3,(.d (.sl none (q.2.map Bc)))),(5,(.d (AF (q.1:Int))))],[(1,[.blk 93 [.d (AF i.id),.d (AF i.pr),.d (AF i.sq),.d (.sl none (i.po.map B7)),.d (.sl none (i.pa.map Cp)),.d (.sl none (i.af.map AF))]])]⟩) (λq=>q.1<=i.pa.length/\q.2=gI (Dy i.po++HB (i.pa.take q.1))) (λq=>i.pa.length - q.1) ((0,L)) (⟨ζ _,v⟩) (AY r [1] Z Z Qs) ?_))));rintro ⟨m,N⟩ ⟨s,l⟩;dsimp only at s l⊢;refine AC ?_;refine AC (AE (fZ Z Z (J (AN Z G2 Z Z Z) (J (AP Z Z Z P9 Z) (J (Ba Z fV Z) (J (BB Z Z Z) (AD (A9 Z (λa=>?_) (λa=>?_)))))))))
  .have c:m<i.pa.length:=BR a;refine AX (AC (AZ (AC (AE ?_))));have g:N.length<=5000:=by rw [l];have:=Nk (Dy i.po++HB (i.pa.take m));rw [Δ,Ig] at this;simp only [Dy,χ,ϖ] at this⊢;omega
   have y:=Ke N (CE i.pa[m].f i.pa[m].t);have x:=Ke (C7 N (CE i.pa[m].f i.pa[m].t)) (CE i.pa[m].t i.pa[m].f);have w:=Ke (C7 (C7 N (CE i.pa[m].f i.pa[m].t)) (CE i.pa[m].t i.pa[m].f)) (DH i.pa[m].f);refine J (AN Z G2 Z Z Z) (J (AP Z Z Z P9 Z) (fZ Z Z (J (BJ (m) Z Z (Z) (A5 c) fV Z Nq Z) (J (DM Z Z Wo Z) (V (By 2 aG Z Z Z Z) (V (B3 Z Z Z Z Z Z Z Nq) ?_))))));refine AD (AC (AE (fZ Z Z (J (AN Z Eb Z Z Z) (J (AP Z Z Z CK Z) (J (AN Z Ea Z Z Z) (J (AP Z Z Z CK Z) (J (FD YG bq Z Z Z) ?_))))))));refine J (As (Ia N (CE i.pa[m].f i.pa[m].t) (by omega)) Z Z) (AB Z Z (AD (AC (AE (fZ Z Z (J (AN Z Ea Z Z Z) (J (AP Z Z Z CK Z) (J (AN Z Eb Z Z Z) ?_))))))));refine J (AP Z Z Z CK Z) (J (FD YG bq Z Z Z) (J (As (Ia (C7 N (CE i.pa[m].f i.pa[m].t)) (CE i.pa[m].t i.pa[m].f) (by omega)) Z Z) (AB Z Z (AD (AC (AE (fZ Z Z (J (AN Z Eb Z Z Z) ?_))))))));refine J (AP Z Z Z CK Z) (J (FD YG bq Z Z Z) (J (As (Ia (C7 (C7 N (CE i.pa[m].f i.pa[m].t)) (CE i.pa[m].t i.pa[m].f)) (DH i.pa[m].f) (by omega)) Z Z) (AB Z Z (AD (AE (fZ Z Z (J (AN Z Ea Z Z Z) (J (AP Z Z Z CK Z) ?_))))))));refine J (FD YG bq Z Z Z) (J (As (Ia (C7 (C7 (C7 N (CE i.pa[m].f i.pa[m].t)) (CE i.pa[m].t i.pa[m].f)) (DH i.pa[m].f)) (DH i.pa[m].t) (by omega)) Z Z) (AB Z Z (AD (AE (fZ Z Z (J (Al Z Z (AM (m+1) (by omega)) Z) (AB Z Z (AD ?_))))))));exact ⟨(m+1,_),⟨by show m+1<=_;omega,by show _=gI (Dy i.po++HB (i.pa.take (m+1)));rw [rf c,<-l]⟩,by show i.pa.length - (m+1)<i.pa.length - m;omega,AY r [1] Z (Z) Qs⟩
  .refine Aw (AC (AE (fZ Z Z (AB Z Z (AD (A4 ?_))))));exact ⟨_,[],[],A2 Z,Z,Z,by rw [l,κ (by have h:=a;omega)]<;>rfl,Z⟩
theorem TM (h:Es i=0):Ff i=0/\KO i=0/\NC i=0:=by
 have a:=Gu h
 simp_all
theorem LH (h:¬(0<=i.id/\i.id<=1000000000)\/¬(0<=i.sq/\i.sq<=1000000000)\/¬(0<=i.pr/\i.pr<=2)):Ar i=2:=ϱ h
theorem PD (h:¬(¬(0<=i.id/\i.id<=1000000000)\/¬(0<=i.sq/\i.sq<=1000000000)\/¬(0<=i.pr/\i.pr<=2))) (a:256<i.po.length\/256<i.pa.length\/256<i.af.length):Ar i=8:=by unfold Ar;rw [θ h,ϱ a]
theorem ee {i:AI} (h:¬(¬(0<=i.id/\i.id<=1000000000)\/¬(0<=i.sq/\i.sq<=1000000000)\/¬(0<=i.pr/\i.pr<=2))) (a:¬(256<i.po.length\/256<i.pa.length\/256<i.af.length)):Ar i=if Es i=0 then BM [LJ i,MP i] else Es i:=by grind [Ar,Ra,Es,BM]
theorem YQ (h:Ff i=0) (f:KO i=0) (c:g∈gI (gN i)):CF g=0:=by
 obtain ⟨x,a,rfl⟩:=Θ.1 ((Jz _ _).1 c);rcases υ.1 a with a | a
 .obtain ⟨p,b,rfl⟩:=Θ.1 a;have:=Ul.1 h p b
  grind [IU,CF]
 .obtain ⟨p,b,a⟩:=jQ.1 a;have:=Ul.1 f p b;unfold JS at this
  split at this; · cases this
  split at this; · cases this
  grind [ML,CF]
theorem mc {i:AI} (h:∀r∈gI (gN i),-Mx<=Ai (gN i) r/\Ai (gN i) r<=Mx):(0:Int)=MP i:=by grind [ei,F9,Jz]
theorem Mn {i:AI} {r:AT} (a:r∈gI (gN i)) (h:¬(-Mx<=Ai (gN i) r/\Ai (gN i) r<=Mx)):(12:Int)=MP i:=by
 unfold MP;rw [ϱ];exact ⟨(r,Ai (gN i) r),(F9 _ _ _).2 ⟨(Jz _ _).1 a,Z⟩,h⟩
theorem er (a:k<i.po.length) (h:Bj i.po i.po[k].acc.a≠0):(14:Int)=LJ i:=by
 unfold LJ;rw [ϱ ⟨_,ξ a,h⟩]
theorem mg (h:∀p∈i.po,Bj i.po p.acc.a=0):LJ i=0:=by grind [LJ]
theorem Jb (i:AI) (g1:i.po.length<=1000) (g2:i.pa.length<=1000) (g3:i.af.length<=1000):AK prog 50 [.d (Ag i)] (AF (Ar i)):=by
 refine At func50 Z Z ntmps50 Z Z Z λF t=>(AC (AE (V (Bo 1 Z Z Z Z Z Z Z) (AB Z Z (AD ?_)))));refine AC (AC (AE (J (AN Z Hi Z Z Z) (J (AP Z Z Z An Z) (J (As (IT i.id) Z Z) (J (Jw Z Z) (fZ Z Z (C3 14 Z (λU=>?_) (λU=>?_)))))))))
 .refine AL Z Z Z Z (AL Z Z Z Z (AL Z Z Z Z (AL Z Z Z Z ?_)));refine J (B5 Z Z Z Z) (fZ Z Z (AL Z Z Z Z (AL Z Z Z Z (AL Z Z Z Z (J (B5 Z Z Z Z) (fZ Z Z (AL Z Z Z Z (AL Z Z Z Z ?_))))))));refine AL Z Z Z Z (J (B5 Z Z Z Z) (AD (Bx Z Z (AC (AE (AB Z Z (AD (A4 ?_))))))));exact ⟨_,[],[],A2 Z,Z,Z,Ab (LH (by omega)).symm,Z⟩
 .refine AQ Z Z Z (J (AN Z MC Z Z Z) ?_);refine AQ Z Z Z (J (AP Z Z Z An Z) (AQ Z Z Z (J (As (IT i.sq) Z Z) (AQ Z Z Z (J (Jw Z Z) (J (Bk Z Z Z Z) (fZ Z Z (C3 20 Z (λS=>?_) (λS=>?_)))))))))
  .refine AL Z Z Z Z (AL Z Z Z Z (AL Z Z Z Z (J (B5 Z Z Z Z) (fZ Z Z (AL Z Z Z Z (AL Z Z Z Z ?_))))));refine AL Z Z Z Z (J (B5 Z Z Z Z) (AD (Bx Z Z (AC (AE (AB Z Z (AD (A4 ?_))))))));exact ⟨_,[],[],A2 Z,Z,Z,Ab (LH (by omega)).symm,Z⟩
  .refine AQ Z Z Z (J (AN Z Jr Z Z Z) (AQ Z Z Z (J (AP Z Z Z An Z) (AQ Z Z Z (J (BB Z Z Z) (J (Bk Z Z Z Z) (fZ Z Z (C3 25 Z (λR=>?_) (λR=>?_)))))))))
   .refine AL Z Z Z Z (AL Z Z Z Z ?_);refine AL Z Z Z Z (J (B5 Z Z Z Z) (AD (Bx Z Z (AC (AE (AB Z Z (AD (A4 ?_))))))));exact ⟨_,[],[],A2 Z,Z,Z,Ab (LH (by omega)).symm,Z⟩
   .refine AQ Z Z Z (J (AN Z Jr Z Z Z) (AQ Z Z Z (J (AP Z Z Z An Z) (AQ Z Z Z (J (HF Z Z Z) (J (Bk Z Z Z Z) (AD (A9 Z (λQ=>?_) (λQ=>?_)))))))))
    .refine AC (AE (AB Z Z (AD (A4 ?_))));exact ⟨_,[],[],A2 Z,Z,Z,Ab (LH (by omega)).symm,Z⟩
    .refine AX ?_;refine AC (AC (AE (J (AN Z Cj Z Z Z) (J (AP Z Z Z IX Z) (J (Ba Z dr Z) (J (HF Z Z Z) (fZ Z Z (C3 34 Z (λP=>?_) (λP=>?_)))))))))
     .refine AL Z Z Z Z (AL Z Z Z Z (AL Z Z Z Z (AL Z Z Z Z (J (B5 Z Z Z Z) (fZ Z Z (AL Z Z Z Z (AL Z Z Z Z (AL Z Z Z Z ?_))))))));refine AL Z Z Z Z (J (B5 Z Z Z Z) (AD (Bx Z Z (AC (AE (AB Z Z (AD (A4 ?_))))))));exact ⟨_,[],[],A2 Z,Z,Z,Ab (PD (by omega) (by omega)).symm,Z⟩
     .refine AQ Z Z Z (J (AN Z G2 Z Z Z) ?_);refine AQ Z Z Z (J (AP Z Z Z P9 Z) (AQ Z Z Z (J (Ba Z fV Z) (AQ Z Z Z (J (HF Z Z Z) (J (Bk Z Z Z Z) (fZ Z Z (C3 40 Z (λO=>?_) (λO=>?_)))))))))
      .refine AL Z Z Z Z (AL Z Z Z Z (AL Z Z Z Z ?_));refine AL Z Z Z Z (J (B5 Z Z Z Z) (AD (Bx Z Z (AC (AE (AB Z Z (AD (A4 ?_))))))));exact ⟨_,[],[],A2 Z,Z,Z,Ab (PD (by omega) (by omega)).symm,Z⟩
      .refine AQ Z Z Z (J (AN Z Cz Z Z Z) ?_);refine AQ Z Z Z (J (AP Z Z Z BL Z) (AQ Z Z Z (J (Ba Z ch Z) (AQ Z Z Z (J (HF Z Z Z) (J (Bk Z Z Z Z) (AD (A9 Z (λN=>?_) (λN=>?_)))))))))
       .refine AC (AE (AB Z Z (AD (A4 ?_))));exact ⟨_,[],[],A2 Z,Z,Z,Ab (PD (by omega) (by omega)).symm,Z⟩
       .refine AX (AC (AC ?_));have a:=ee (i:=i) (by omega) (by omega);refine AE (J (Ay Z Z IC Z Z Z) ?_);refine J (As (lC i g1 g2 g3) Z Z) (AB Z Z (AD (AC (AE (fZ Z Z (J (Cw Z Z Z) (AD (A9 Z (λz=>?_) (λz=>?_)))))))))
        .refine AC (AE (fZ Z Z (AB Z Z (AD (A4 ?_)))));exact ⟨_,[],[],A2 Z,Z,Z,Ab (by rw [a,θ z]),Z⟩
        .refine AX (AC (AC ?_));have W:Es i=0:=by simpa using z
         obtain ⟨C,B,hz3⟩:=TM W;rw [ϱ W] at a
         have M:jL i:=⟨by omega,by omega,by omega,RU C,bv B⟩
         refine AE (AB Z Z (AD (AZ (BO (α:=Nat) (λk=>⟨110,[(1,(.ptr 1 0 0)),(4,(.d (AF (k:Int))))],[(1,[.blk 93 [.d (AF i.id),.d (AF i.pr),.d (AF i.sq),.d (.sl none (i.po.map B7)),.d (.sl none (i.pa.map Cp)),.d (.sl none (i.af.map AF))]])]⟩) (λk=>k<=i.po.length/\∀p∈i.po.take k,Bj i.po p.acc.a=0) (λk=>i.po.length - k) (0) (⟨ζ _,by simp⟩) (AY t [1] Z Z ⟨Z,Z,trivial⟩) ?_))));rintro k ⟨hk0,X⟩;refine AC ?_;refine AC (AE (fZ Z Z (J (AN Z Cj Z Z Z) (J (AP Z Z Z IX Z) (J (Ba Z dr Z) (J (BB Z Z Z) (AD (A9 Z (λy=>?_) (λy=>?_)))))))))
         .have o:k<i.po.length:=BR y;refine AX (AC (AZ (AC (AE ?_))));refine AB Z Z (AD (AC (AC (AE (AB Z Z (AD (AZ (BO (α:=Nat×Int) (λq=>⟨110,[(1,(.ptr 1 0 0)),(4,(.d (AF (k:Int)))),(5,(.d (AF q.2))),(6,(.d (AF (q.1:Int))))],[(1,[.blk 93 [.d (AF i.id),.d (AF i.pr),.d (AF i.sq),.d (.sl none (i.po.map B7)),.d (.sl none (i.pa.map Cp)),.d (.sl none (i.af.map AF))]])]⟩) (λq=>q.1<=i.po.length/\q.2=Bj (i.po.take q.1) i.po[k].acc.a) (λq=>i.po.length - q.1) ((0,0)) (⟨ζ _,Z⟩) (AY t [1] Z Z E0) ?_))))))));rintro ⟨m,n⟩ ⟨I,E⟩;dsimp only at I E⊢;refine AC ?_;refine AC (AE (fZ Z Z (J (AN Z Cj Z Z Z) (J (AP Z Z Z IX Z) (J (Ba Z dr Z) (J (BB Z Z Z) (AD (A9 Z (λx=>?_) (λx=>?_)))))))))
          .have b:m<i.po.length:=BR x;refine AX (AC (AZ (AC (CZ [[],[0],[],[0,1,2],[0,1,2,3],rg 5,rg 6,[],[7],[],[7,8,9],[7,8,9,10],[7,8,9,10,11],[7,8,9,10,11,12],rg 14] mixed Z (CG ?_)))));refine AU [1] Z (AN Z Cj Z Z Z) (Au [65] Z Z (λ_=>Ae (AP Z Z Z IX Z)) (Av 6 Z Z (AU [66,67] Z (BJ (m) Z Z (Z) (A5 b) dr Z J3 Z) (AU [68] Z (WX Z FO Z Z Z) (AU [69] Z (Nc Z MA Z Z Z) (AU [70] Z (CI Z Z CK Z) (AU [1] Z (AN Z Cj Z Z Z) (Au [72] Z Z (λ_=>Ae (AP Z Z Z IX Z)) ?_))))))));refine Av 4 Z Z (AU [73,74] Z (BJ (k) Z Z (Z) (A5 o) dr Z J3 Z) (AU [75] Z (WX Z FO Z Z Z) (AU [76] Z (Nc Z MA Z Z Z) (AU [77] Z (CI Z Z CK Z) (CB 14 Z Z Z (Ad 15 Z Z (J (Jx Z Z Z) (AD ⟨Z,?_⟩))))))));refine CM (A9 Z (λw=>?_) (λw=>?_))
           .refine AE (fZ Z Z (J (AN Z Cj Z Z Z) (J (AP Z Z Z IX Z) (fZ Z Z (J (BJ (m) Z Z (Z) (A5 b) dr Z J3 Z) (J (Nc Z Ko Z Z Z) (J (CI Z Z GE Z) ?_)))))));have L:=M.d _ (ξ b);have K:=In (i.po.take m) i.po[k].acc.a (Qz M.d);rw [<-E,ϖ] at K;simp only [Mx] at L;refine J (Al Z Z (Ξ _ (by omega)) Z) (AB Z Z (AD (AE (fZ Z Z (J (Al Z Z (AM (m+1) (by omega)) Z) (AB Z Z (AD ?_)))))));exact ⟨(m+1,_),⟨by show m+1<=_;omega,by show _=Bj (i.po.take (m+1)) _;rw [ψ b,G6,<-E,ϱ w]⟩,by show i.po.length - (m+1)<i.po.length - m;omega,AY t [1] Z (Z) E0⟩
           .refine AX (AE (fZ Z Z (J (Al Z Z (AM (m+1) (by omega)) Z) (AB Z Z (AD ?_)))));exact ⟨(m+1,_),⟨by show m+1<=_;omega,by show _=Bj (i.po.take (m+1)) _;rw [ψ b,G6,<-E,θ w];exact (Int.add_zero _).symm⟩,by show i.po.length - (m+1)<i.po.length - m;omega,AY t [1] Z (Z) E0⟩
          .refine Aw (AC ?_);have hS:n=Bj i.po i.po[k].acc.a:=by rw [E,κ (by have h:=x;omega)]
           refine AE (fZ Z Z (J (Cw Z Z Z) (AD (A9 Z (λv=>?_) (λv=>?_)))))
           .refine AC (AE (AB Z Z (AD (A4 ?_))));exact ⟨_,[],[],A2 Z,Z,Z,Ab (by have h:=er o (by rw [<-hS];exact v);rw [a,BM,θ (by rw [<-h];decide),<-h]),Z⟩
           .refine AX (AE (fZ Z Z (J (Al Z Z (AM (k+1) (by omega)) Z) (AB Z Z (AD ?_)))));exact ⟨k+1,⟨by show k+1<=_;omega,by rw [ψ o];intro p l;rcases υ.1 l with l | l;exact X p l;rw [η.1 l];simpa [hS] using v⟩,by show i.po.length - (k+1)<i.po.length - k;omega,AY t [1] Z (Z) ⟨Z,Z,trivial⟩⟩
         .refine Aw (AC ?_);have s:LJ i=0:=mg (λp l=>X p (by rw [κ (by have h:=y;omega)];exact l))
          obtain ⟨T,A⟩:∃T,gI (gN i)=T:=⟨_,Z⟩
          have D:=YP i g1 g2;rw [A] at D;have hTl:T.length<=5000:=by rw [<-A];have h1:=Nk (gN i);have h2:=Hq i;omega
          refine AE (J (Ay Z Z IC Z Z Z) (J (As (D) Z Z) ?_));refine AB Z Z (AD (AC (AC (AE (AB Z Z (AD (AZ (BO (α:=Nat) (λj=>⟨110,[(1,(.ptr 1 0 0)),(7,(.d (.sl none (T.map Bc)))),(8,(.d (AF (j:Int))))],[(1,[.blk 93 [.d (AF i.id),.d (AF i.pr),.d (AF i.sq),.d (.sl none (i.po.map B7)),.d (.sl none (i.pa.map Cp)),.d (.sl none (i.af.map AF))]])]⟩) (λj=>j<=T.length/\∀r∈T.take j,-Mx<=Ai (gN i) r/\Ai (gN i) r<=Mx) (λj=>T.length - j) (0) (⟨ζ _,by simp⟩) (AY t [1] Z Z Qs) ?_))))))));rintro j ⟨hj0,Y⟩;refine AC (AC (AE (fZ Z Z (fZ Z Z (J (Ba Z ey Z) (J (BB Z Z Z) (AD (A9 Z (λu=>?_) (λu=>?_)))))))))
          .have c:j<T.length:=BR u;refine AX (AC (AZ (AC (CZ [[],[],[],[1,2],[1,2,3],rg 5,rg 6] mixed Z (CG ?_)))));have f:La i T[j]=Ai (gN i) T[j]:=QJ (YQ C B (by rw [A];exact ξ c));refine Au [1] Z Z (λ_=>Ae (Ay Z Z IC Z Z Z)) (Av 7 Z Z (Av 8 Z Z (AU [99,100] Z (BJ (j) Z Z (Z) (A5 c) ey Z LU Z) (AU [101] Z (DM Z Z GV Z) (CB 5 Z Z Z (Ad 6 Z Z (J (As (TC i T[j] M) Z Z) (AD ⟨Z,?_⟩))))))));refine Ad 7 Z Z (AB Z Z (AD ⟨Z,?_⟩));refine CM (AC (AE (fZ Z Z (J (BB Z Z Z) (fZ Z Z (C3 106 Z (λH=>?_) (λH=>?_)))))))
           .refine AL Z Z Z Z ?_;refine AL Z Z Z Z (J (B5 Z Z Z Z) (AD (Bx Z Z (AC (AE (AB Z Z (AD (A4 ?_))))))));exact ⟨_,[],[],A2 Z,Z,Z,Ab (by have h:=Mn (i:=i) (r:=T[j]) (by rw [A];exact ξ c) (by rw [<-f];simp only [Mx];omega);rw [a,BM,ϱ s,BM,θ (by rw [<-h];decide),<-h]),Z⟩
           .refine AQ Z Z Z (fZ Z Z (AQ Z Z Z (J (HF Z Z Z) (J (Bk Z Z Z Z) (AD (A9 Z (λG=>?_) (λG=>?_)))))))
            .refine AC (AE (AB Z Z (AD (A4 ?_))));exact ⟨_,[],[],A2 Z,Z,Z,Ab (by have h:=Mn (i:=i) (r:=T[j]) (by rw [A];exact ξ c) (by rw [<-f];simp only [Mx];omega);rw [a,BM,ϱ s,BM,θ (by rw [<-h];decide),<-h]),Z⟩
            .refine AX (AE (fZ Z Z (J (Al Z Z (AM (j+1) (by omega)) Z) (AB Z Z (AD ?_)))));exact ⟨j+1,⟨by show j+1<=_;omega,by rw [ψ c];intro r g;rcases υ.1 g with g | g;exact Y r g;rw [η.1 g,<-f];simp only [Mx];omega⟩,by show T.length - (j+1)<T.length - j;omega,AY t [1] Z (Z) Qs⟩
          .refine Aw (AC (AE (AB Z Z (AD (A4 ?_)))));exact ⟨_,[],[],A2 Z,Z,Z,Ab (by have h:=mc (i:=i) (λr g=>Y r (by rw [κ (by have h:=u;omega),<-A];exact g));rw [a,BM,ϱ s,BM,ϱ h.symm];rfl),Z⟩
deriving instance DecidableEq for FT
deriving instance DecidableEq for MW
deriving instance DecidableEq for AI
deriving instance DecidableEq for Ac
theorem FT.eq_iff {x y:FT}:x=y↔x.acc=y.acc/\x.d=y.d:=by cases x;cases y;simp
theorem MW.eq_iff {x y:MW}:x=y↔x.f=y.f/\x.t=y.t/\x.n=y.n:=by cases x;cases y;simp
theorem Ac.eq_iff {x y:Ac}:x=y↔x.r=y.r/\x.n=y.n:=by cases x;cases y;simp
theorem AI.eq_iff {x y:AI}:x=y↔x.id=y.id/\x.pr=y.pr/\x.sq=y.sq/\x.po=y.po/\x.pa=y.pa/\x.af=y.af:=by cases x;cases y;simp
theorem OD (r:AT):AK prog 49 [.d (Bc r)] (AF (CF r)):=by
 refine At func49 Z Z ntmps49 Z Z Z λF x=>(AC (AE (V (Bo 1 Z Z Z Z Z Z Z) (AB Z Z (AD (AC (AE (J (AN Z EU Z Z Z) ?_))))))));refine J (Ay Z Z Ya Z Z Z) (J (FD tr uX Z Z Z) (J (Fb (la:=ND r.acc) (lb:=ND SI) (ds:=fE) (by kernel_rfl) (by kernel_rfl) (by kernel_rfl) Z Z Z Z (Db _) (Db _) (N9 _ _) Z) (AB Z Z (AD (AC (AC (AE (J (AN Z G1 Z Z Z) ?_))))))));refine J (AP Z Z Z An Z) (AD (AZ (AC (AE (J (GF Z Z Z) (AB Z Z (AD (A9 Z (λw=>?_) (λw=>?_)))))))));refine AC (AE (J (AN Z EU Z Z Z) (J (AN Z Rj Z Z Z) (J (AP Z Z Z CK Z) (J (Jx Z Z Z) (fZ Z Z (C3 16 Z (λv=>?_) (λv=>?_))))))));refine AL Z Z Z Z (AL Z Z Z Z ?_);refine AL Z Z Z Z (AL Z Z Z Z (J (B5 Z Z Z Z) (fZ Z Z (AL Z Z Z Z (AL Z Z Z Z (AL Z Z Z Z (AL Z Z Z Z (J (B5 Z Z Z Z) ?_))))))));refine fZ Z Z (AL Z Z Z Z (AL Z Z Z Z (AL Z Z Z Z (AL Z Z Z Z (J (B5 Z Z Z Z) (fZ Z Z (AL Z Z Z Z (AL Z Z Z Z ?_))))))));refine AL Z Z Z Z (J (B5 Z Z Z Z) (fZ Z Z (AL Z Z Z Z (AL Z Z Z Z (AL Z Z Z Z (J (B5 Z Z Z Z) (AD (Bx Z Z ?_))))))))
 rotate_left
 refine AQ Z Z Z (J (AN Z EU Z Z Z) ?_);refine AQ Z Z Z (J (AN Z MA Z Z Z) (AQ Z Z Z (J (AP Z Z Z CK Z) (AQ Z Z Z (J (Jx Z Z Z) (J (Bk Z Z Z Z) (fZ Z Z (C3 22 Z (λu=>?_) (λu=>?_)))))))));refine AL Z Z Z Z (AL Z Z Z Z (AL Z Z Z Z (AL Z Z Z Z (J (B5 Z Z Z Z) ?_))));refine fZ Z Z (AL Z Z Z Z (AL Z Z Z Z (AL Z Z Z Z (AL Z Z Z Z (J (B5 Z Z Z Z) (fZ Z Z (AL Z Z Z Z (AL Z Z Z Z ?_))))))));refine AL Z Z Z Z (J (B5 Z Z Z Z) (fZ Z Z (AL Z Z Z Z (AL Z Z Z Z (AL Z Z Z Z (J (B5 Z Z Z Z) (AD (Bx Z Z ?_))))))))
 rotate_left
 refine AQ Z Z Z (J (AN Z EU Z Z Z) ?_);refine AQ Z Z Z (J (AN Z MB Z Z Z) (AQ Z Z Z (J (AP Z Z Z An Z) (AQ Z Z Z (J (BB Z Z Z) (J (Bk Z Z Z Z) (fZ Z Z (C3 28 Z (λt=>?_) (λt=>?_)))))))));refine AL Z Z Z Z (AL Z Z Z Z (AL Z Z Z Z (AL Z Z Z Z (J (B5 Z Z Z Z) (fZ Z Z (AL Z Z Z Z (AL Z Z Z Z ?_)))))));refine AL Z Z Z Z (J (B5 Z Z Z Z) (fZ Z Z (AL Z Z Z Z (AL Z Z Z Z (AL Z Z Z Z (J (B5 Z Z Z Z) (AD (Bx Z Z ?_))))))))
 rotate_left
 refine AQ Z Z Z (J (AN Z EU Z Z Z) ?_);refine AQ Z Z Z (J (AN Z MB Z Z Z) (AQ Z Z Z (J (AP Z Z Z An Z) (AQ Z Z Z (J (HF Z Z Z) (J (Bk Z Z Z Z) (fZ Z Z (C3 34 Z (λs=>?_) (λs=>?_)))))))));refine AL Z Z Z Z (AL Z Z Z Z ?_);refine AL Z Z Z Z (J (B5 Z Z Z Z) (fZ Z Z (AL Z Z Z Z (AL Z Z Z Z (AL Z Z Z Z (J (B5 Z Z Z Z) (AD (Bx Z Z ?_))))))))
 rotate_left
 refine AQ Z Z Z (J (AN Z Ew Z Z Z) (AQ Z Z Z (J (AP Z Z Z CK Z) (AQ Z Z Z (J (DE Z Z Z) (J (Bk Z Z Z Z) (fZ Z Z (C3 39 Z (λo=>?_) (λo=>?_)))))))));refine AL Z Z Z Z (AL Z Z Z Z (AL Z Z Z Z (J (B5 Z Z Z Z) (AD (Bx Z Z ?_)))))
 rotate_left
 refine AQ Z Z Z (J (AN Z Ev Z Z Z) (AQ Z Z Z (J (AP Z Z Z CK Z) (AQ Z Z Z (J (DE Z Z Z) (J (Bk Z Z Z Z) (AD (A9 Z (λl=>?_) (λl=>?_)))))))))
 rotate_left
 refine AX ?_
 rotate_left
 refine AC (AE (J (GF Z Z Z) (AB Z Z (AD (A9 Z (λk=>?_) (λk=>?_))))));refine AC (AE (fZ Z Z (J (Jw Z Z) (fZ Z Z (C3 48 Z (λj=>?_) (λj=>?_))))));refine AL Z Z Z Z (AL Z Z Z Z (AL Z Z Z Z (J (B5 Z Z Z Z) (fZ Z Z (AL Z Z Z Z (AL Z Z Z Z (AL Z Z Z Z (J (B5 Z Z Z Z) ?_))))))));refine fZ Z Z (AL Z Z Z Z (AL Z Z Z Z (AL Z Z Z Z (AL Z Z Z Z (AL Z Z Z Z (J (B5 Z Z Z Z) (AD (Bx Z Z ?_))))))))
 rotate_left
 refine AQ Z Z Z (J (AN Z Ew Z Z Z) (AQ Z Z Z (J (AP Z Z Z CK Z) (AQ Z Z Z (J (Jx Z Z Z) (J (Bk Z Z Z Z) (fZ Z Z (C3 53 Z (λi=>?_) (λi=>?_)))))))));refine AL Z Z Z Z (AL Z Z Z Z (AL Z Z Z Z (J (B5 Z Z Z Z) ?_)));refine fZ Z Z (AL Z Z Z Z (AL Z Z Z Z (AL Z Z Z Z (AL Z Z Z Z (AL Z Z Z Z (J (B5 Z Z Z Z) (AD (Bx Z Z ?_))))))))
 rotate_left
 refine AQ Z Z Z (J (AN Z Ev Z Z Z) (AQ Z Z Z (J (AP Z Z Z CK Z) (AQ Z Z Z (J (Jx Z Z Z) (J (Bk Z Z Z Z) (fZ Z Z (C3 58 Z (λh=>?_) (λh=>?_)))))))));refine AL Z Z Z Z (AL Z Z Z Z (AL Z Z Z Z (AL Z Z Z Z (AL Z Z Z Z (J (B5 Z Z Z Z) (AD (Bx Z Z ?_)))))))
 rotate_left
 refine AQ Z Z Z (J (AN Z Ew Z Z Z) (AQ Z Z Z (J (AP Z Z Z CK Z) ?_)));refine AQ Z Z Z (J (AN Z Ev Z Z Z) (AQ Z Z Z (J (AP Z Z Z CK Z) (AQ Z Z Z (J (Jx Z Z Z) (J (Bk Z Z Z Z) (AD (A9 Z (λg=>?_) (λg=>?_)))))))))
 rotate_left
 refine AX ?_
 rotate_left
 refine AC (AE (J (GF Z Z Z) (AB Z Z (AD (A9 Z (λf=>?_) (λf=>?_))))));refine AC (AE (fZ Z Z (J (Jw Z Z) (fZ Z Z (C3 69 Z (λc=>?_) (λc=>?_))))));refine AL Z Z Z Z (AL Z Z Z Z ?_);refine AL Z Z Z Z (J (B5 Z Z Z Z) (fZ Z Z (AL Z Z Z Z (AL Z Z Z Z (AL Z Z Z Z (J (B5 Z Z Z Z) (AD (Bx Z Z ?_))))))))
 rotate_left
 refine AQ Z Z Z (J (AN Z Ew Z Z Z) (AQ Z Z Z (J (AP Z Z Z CK Z) (AQ Z Z Z (J (Jx Z Z Z) (J (Bk Z Z Z Z) (fZ Z Z (C3 74 Z (λb=>?_) (λb=>?_)))))))));refine AL Z Z Z Z (AL Z Z Z Z (AL Z Z Z Z (J (B5 Z Z Z Z) (AD (Bx Z Z ?_)))))
 rotate_left
 refine AQ Z Z Z (J (AN Z Ev Z Z Z) (AQ Z Z Z (J (AP Z Z Z CK Z) (AQ Z Z Z (J (DE Z Z Z) (J (Bk Z Z Z Z) (AD (A9 Z (λa=>?_) (λa=>?_)))))))))
 rotate_left
 refine AX ?_
 rotate_left
 all_goals
  refine AC (AE (AB Z Z (AD (A4 ?_))));exact ⟨_,[],[],A2 Z,Z,Z,Ab (by unfold CF;simp_all<;>(intros;omega)),Z⟩
theorem Ja (i:AI) (r:AT) (j:i.po.length<=1000) (g:i.pa.length<=1000) (f:i.af.length<=1000):AK prog 94 [.d (Ag i),.d (Bc r)] (AF (Bw i r)):=by
 by_cases c:Ar i=0
 .have k:=(Fp c).1;have a:=Jb i j g f;rw [c] at a;refine At func94 Z Z ntmps94 Z Z Z λF o=>(AC (AE (V (Bo 1 Z Z Z Z Z Z Z) (V (Bo 2 Z Z Z Z Z Z Z) (AB Z Z ?_)))));refine AD (AC (AC (AE (J (Ay Z Z IC Z Z Z) (J (As (a) Z Z) (J (Cw Z Z Z) (fZ Z Z (Dr 8 Z (by decide) ?_))))))));refine AQ Z Z Z (J (Ay Z Z GV Z Z Z) (AQ Z Z Z (J (As (OD r) Z Z) (AQ Z Z Z (J (Cw Z Z Z) (J (Bk Z Z Z Z) (AD (A9 Z (λb=>?_) (λb=>?_)))))))))
  .refine AC (AE (AB Z Z (AD (A4 ?_))));exact ⟨_,[],[],A2 Z,Z,Z,Ab (by rw [Bw,θ];simp_all),Z⟩
  .refine AX (AC (AE (J (Ay Z Z IC Z Z Z) (J (Ay Z Z GV Z Z Z) (J (As (TC i r k) Z Z) (AB Z Z (AD (A4 ?_))))))));exact ⟨_,[],[],A2 Z,Z,Z,Ab (by rw [Bw,ϱ ⟨c,by simpa using b⟩,QJ (by simpa using b)]),Z⟩
 .have a:=Jb i j g f;have l:Bw i r=0:=θ λh=>c h.1;rw [l];refine At func94 Z Z ntmps94 Z Z Z λF o=>(AC (AE (V (Bo 1 Z Z Z Z Z Z Z) (V (Bo 2 Z Z Z Z Z Z Z) (AB Z Z (AD (AC ?_)))))));refine AC (AE (J (Ay Z Z IC Z Z Z) (J (As (a) Z Z) (J (Cw Z Z Z) (fZ Z Z (Et 8 Z ((by simpa using c)) (AL Z Z Z Z (AL Z Z Z Z ?_))))))));refine AL Z Z Z Z (J (B5 Z Z Z Z) (AD (Bx Z Z (AC (AE (AB Z Z (AD (A4 ?_))))))));exact ⟨_,[],[],A2 Z,Z,Z,Z,Z⟩
theorem En {p:a ->Bool} (b:k<f.length):(f.take (k+1)).filter p=(f.take k).filter p++(if p f[k] then [f[k]] else []):=by
 rw [ψ b,iP]
 grind
end Go.Proofs.YteifpcnphnhaoaaGreat
