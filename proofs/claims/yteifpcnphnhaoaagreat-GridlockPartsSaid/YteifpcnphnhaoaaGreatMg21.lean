import Derived.Test.YteifpcnphnhaoaaGreatMg20
open Go.Proofs.Tryz
set_option maxHeartbeats 4000000
namespace Go.Proofs.YteifpcnphnhaoaaGreat
open Go.RowKit
variable{g:List (List Nat)}{a:List Nat}{K c:Nat->Nat}{f i:Nat}
set_option maxRecDepth 100000
theorem se(i:Nat)(h:i<=1000000):IntKind.i64.wrap (Int.tdiv ((i:Int)-1) 2)=(((i-1) / 2:Nat):Int):=by
 rw[ui];exact Ξ _ (by omega)
theorem sE(a:List Nat)(l j:List Nat)(k:Nat)(C:k<l.length)(w:l.length<=1000000)(B:∀x∈l,x<a.length):AP prog 262 [.ifc 321 none 1 0,.d (AT k)] (NG a l j) λr E=>r= .tup []/\E=NG a (So (fz a) k l k) j:=by
 refine Av func262 Z Z ntmps262 Z Z Z λF z=>(AZ (BM (α:=Nat×List Nat×Nat) (λq=>⟨23,[(0,.ifc 321 none 1 0),(1,(.d (AT q.2.2)))],NG a q.2.1 j⟩) (λq=>q.2.2<=q.1/\q.2.2<q.2.1.length/\q.2.1.length<=1000000/\So (fz a) q.1 q.2.1 q.2.2=So (fz a) k l k/\∀x∈q.2.1,x<a.length) (λq=>q.2.2) ((k,l,k)) (⟨Γ _,C,w,Z,B⟩) (AX z [1,2,5,6] Z Z ⟨Z,Z,trivial⟩) ?_));rintro ⟨f,m,i⟩ ⟨v,c,s,b,o⟩;dsimp only at v c s b⊢;have g:(i-1) / 2<m.length:=by omega
 refine AZ (AC (AE (ek Z Z (J (P4 Z Z (Ξ _ (by omega)) Z) (J (pG Z Z (by omega) (se i (by omega)) Z) (AB Z Z ?_))))));refine AD (AC (AC (AE (ek Z Z (ek Z Z (J (GR Z Z Z) (ek Z Z (CU 11 Z (λu=>?_) (λu=>?_)))))))))
 .refine AI Z Z Z Z (AI Z Z Z Z (AI Z Z Z Z (AI Z Z Z Z (AI Z Z Z Z (J (BZ Z Z Z Z) (AD (Bw Z Z (Aw ?_))))))));have D:i=0:=by omega
  exact ⟨_,[1,2,5,6],_,A0 Z,Z,Z,Z,by rw[<-b,D,am]⟩
 .refine AQ Z Z Z (ek Z Z (AQ Z Z Z (ek Z Z ?_)));refine AQ Z Z Z (ek Z Z (AQ Z Z Z (V (Ea dO (Rm a m j o i ((i-1) / 2) c g) Z [1,2,5,6] ⟨Z,Z,Z,Z,trivial⟩ Z Z Z Z Z Z Z Z Z) (AQ Z Z Z (J (KH Z Z) (J (Be Z Z Z Z) (AD (A6 Z (λh=>?_) (λh=>?_)))))))))
  .refine Aw ?_;exact ⟨_,[1,2,5,6],_,A0 Z,Z,Z,Z,by rw[<-b,ao (by simpa using h)]⟩
  .refine AW (AC ?_);have y:i≠0:=λe=>by subst e;exact u rfl
   have t:(fz a) (fz m i)<(fz a) (fz m ((i-1) / 2)):=Classical.not_not.1 h;refine AE ?_;refine ek Z Z (ek Z Z (ek Z Z (V (Ea dN (RU a m j ((i-1) / 2) i g c) Z [1,2,5,6] ⟨Z,Z,Z,Z,trivial⟩ Z Z Z Z Z Z Z Z Z) (AD (AE (ek Z Z (AB Z Z (AD ?_))))))));exact ⟨(f-1,Mi m ((i-1) / 2) i,(i-1) / 2),⟨by show (i-1) / 2<=f-1;omega,by show _<(Mi _ _ _).length;rw[NS];exact g,by show (Mi _ _ _).length<=_;rw[NS];exact s,by show So _ (f-1) _ _=_;rw[<-b,<-ot y t,show f-1+1=f by omega],λx A=>o x ((Fb g c).mem_iff.1 A)⟩,by show (i-1) / 2<i;omega,AX z [1,2,5,6] Z (Z) ⟨Z,Z,trivial⟩⟩
theorem qq(c:2*i+2<f)(b:K (fz a (2*i+2))<K (fz a (2*i+1))):Sb K f a i=2*i+2:=ς ⟨c,b⟩
theorem ej(h:¬(2*i+2<f/\K (fz a (2*i+2))<K (fz a (2*i+1)))):Sb K f a i=2*i+1:=κ h
theorem mU(a:List Nat)(l j:List Nat)(k n:Nat)(L:k<l.length)(H:n<=l.length)(B:l.length<=1000000)(I:∀x∈l,x<a.length):AP prog 263 [.ifc 321 none 1 0,.d (AT k),.d (AT n)] (NG a l j) λr N=>(∃b:Bool,r= .d (Ah b))/\N=NG a (PL (fz a) n (n-k) l k) j:=by
 refine Av func263 Z Z ntmps263 Z Z Z λF E=>(AC (AE (AB Z Z ?_)));refine AD (AC (AE (ek Z Z (AB Z Z (AD (AC (AZ (BM (α:=Nat×List Nat×Nat) (λq=>⟨48,[(0,.ifc 321 none 1 0),(1,.d (AT k)),(2,.d (AT n)),(7,(.d (AT q.2.2)))],NG a q.2.1 j⟩) (λq=>n<=q.1+q.2.2/\q.2.2<q.2.1.length/\q.2.1.length<=1000000/\n<=q.2.1.length/\PL (fz a) n q.1 q.2.1 q.2.2=PL (fz a) n (n-k) l k/\∀x∈q.2.1,x<a.length) (λq=>n-q.2.2) ((n-k,l,k)) (⟨by show n<=n-k+k;omega,L,B,H,Z,I⟩) (AX E [1,2,5,6] Z Z ⟨Z,Z,Z,Z,trivial⟩) ?_))))))));rintro ⟨f,m,i⟩ ⟨A,g,v,u,c,s⟩;dsimp only at A g v u c⊢;refine AZ (AC (AE (ek Z Z (J (pH Z Z (Ξ _ (by omega)) Z) (J (Aj Z Z (Ξ _ (by omega)) Z) (AB Z Z (AD ?_)))))));refine AC (AC (fj 8 (.d (AT (2*i+1))) Z (eqv (gV AF (by omega))) (AE (ek Z Z (ek Z Z (J (EN Z Z Z) (ek Z Z (CU 18 Z (λz=>?_) (λz=>?_)))))))))
 .refine AI Z Z Z Z (AI Z Z Z Z (J (BZ Z Z Z Z) (AD (Bw Z Z ?_))));refine Aw (AC (AE (ek Z Z (ek Z Z (J (HV Z Z Z) (AB Z Z (AD (A2 ?_))))))));exact ⟨_,[1,2,5,6],_,A0 Z,Z,Z,⟨_,Z⟩,by rw[<-c,mY (by omega)]⟩
 .refine AQ Z Z Z (ek Z Z (AQ Z Z Z (J (Az Z Z Z) (J (Be Z Z Z Z) (AD (Cr Z (gp (by omega)) (AW (AC ?_))))))));have w:¬n<=2*i+1:=by have:=z;omega
  have M:=qp (K:=(fz a)) (l:=m) w;have o:Sb (fz a) n m i<m.length:=by omega
  refine AE ?_;refine ek Z Z (AB Z Z (AD (AC (AC (AE (ek Z Z (J (Aj Z Z (Ξ _ (by omega)) Z) (AB Z Z ?_))))))));refine AD (AC (fj 10 (.d (AT (2*i+2))) Z (eqv (gV AF (by omega))) (AE (ek Z Z (ek Z Z (J (Az Z Z Z) (ek Z Z (CU 28 Z (λD=>?_) (λD=>?_)))))))));refine AQ Z Z Z (ek Z Z ?_);refine AQ Z Z Z (ek Z Z (AQ Z Z Z (ek Z Z (AQ Z Z Z (V (Ea dO (Rm a m j s (2*i+2) (2*i+1) (by omega) (by omega)) Z [1,2,5,6] ⟨Z,Z,Z,Z,trivial⟩ Z Z Z Z Z Z Z Z Z) (J (BZ Z Z Z Z) (AD (A6 Z (λC=>?_) (λC=>?_)))))))));refine AE (ek Z Z (AB Z Z (AD ?_)))
  rotate_left
  refine AW ?_
  rotate_left
  refine AI Z Z Z Z (AI Z Z Z Z (AI Z Z Z Z (AI Z Z Z Z (J (Be Z Z Z Z) (AD (Cr Z Z (AW ?_)))))))
  all_goals
   refine AC (AC ?_);refine fj 9 (.d (AT (Sb (fz a) n m i))) Z (eqv (gV AT (by first | exact (qq (by omega) (by assumption)).symm | exact (ej (λh=>by omega)).symm | exact (ej (λh=>absurd h.2 (by assumption))).symm))) (AE (ek Z Z (ek Z Z (ek Z Z (V (Ea dO (Rm a m j s (Sb (fz a) n m i) i o g) Z [1,2,5,6] ⟨Z,Z,Z,Z,trivial⟩ Z Z Z Z Z Z Z Z Z) (J (KH Z Z) (AD (A6 Z (λt=>?_) (λt=>?_)))))))))
   .refine Aw (AC (AE (ek Z Z (ek Z Z (J (HV Z Z Z) (AB Z Z (AD (A2 ?_))))))));exact ⟨_,[1,2,5,6],_,A0 Z,Z,Z,⟨_,Z⟩,by rw[<-c,en t]⟩
   .refine AW (AC ?_);have y:(fz a) (fz m (Sb (fz a) n m i))<(fz a) (fz m i):=Classical.not_not.1 t;refine AE ?_;refine ek Z Z (ek Z Z (ek Z Z (V (Ea dN (RU a m j i (Sb (fz a) n m i) g o) Z [1,2,5,6] ⟨Z,Z,Z,Z,trivial⟩ Z Z Z Z Z Z Z Z Z) (AD (AE (ek Z Z (AB Z Z (AD ?_))))))));exact ⟨(f-1,Mi m i (Sb (fz a) n m i),Sb (fz a) n m i),⟨by show n<=f-1+Sb _ n m i;omega,by show _<(Mi _ _ _).length;rw[NS];exact o,by show (Mi _ _ _).length<=_;rw[NS];exact v,by show _<=(Mi _ _ _).length;rw[NS];exact u,by show PL _ n (f-1) _ _=_;rw[<-c,<-qr w y,show f-1+1=f by omega],λx G=>s x ((Fb g o).mem_iff.1 G)⟩,by show n-Sb _ n m i<n-i;omega,AX E [1,2,5,6] Z (Z) ⟨Z,Z,Z,Z,trivial⟩⟩
theorem UN(a:List Nat)(l j:List Nat)(x:Nat)(h:l.length<=999999)(i:∀x∈l,x<a.length)(g:x<a.length):AP prog 222 [.ifc 321 none 1 0,.d (.raw (.iface 3 (.int .i64 (x:Int))))] (NG a l j) λr k=>r= .tup []/\k=NG a (Mr (fz a) l x) []:=by
 have c:(l++ [x]).length=l.length+1:=by simp
 have b:((l.length+1:Nat):Int)-1=((l.length:Nat):Int):=by omega
 refine Av func222 Z Z ntmps222 Z Z Z λF o=>(AC (AE (ek Z Z (ek Z Z (V (Ea tN (dF a l j x (by omega)) Z [1,2,5,6] ⟨Z,Z,Z,Z,trivial⟩ Z Z Z Z Z Z Z Z Z) ?_)))));refine AD (AE (ek Z Z (ek Z Z (V (Ea tO (WI a (l++ [x]) []) Z [1,2,5,6] ⟨Z,Z,Z,Z,trivial⟩ Z Z Z Z Z Z Z Z Z) (J (P4 Z Z (Ξ _ (by omega)) Z) (Pq 10 (.d (AT l.length)) Z (eqv (gV AF (by rw[c];exact b))) (V (FH (sE a (l++ [x]) [] l.length (by omega) (by omega) (λy f=>(ϖ.1 f).elim (i y) λe=>θ.1 e▸g)) Z [1,2,5,6] ⟨Z,Z,Z,Z,trivial⟩ Z Z Z Z Z Z Z Z Z) (AD ?_))))))));exact ⟨_,[1,2,5,6],_,A0 Z,Z,Z,Z,Z⟩
theorem mC(a:List Nat)(l j:List Nat)(f:l≠ [])(s:l.length<=999999)(t:∀x∈l,x<a.length):AP prog 224 [.ifc 321 none 1 0] (NG a l j) λr u=>r= .d (.raw (.iface 3 (.int .i64 (fz l 0:Int))))/\u=NG a (Pv (fz a) l) ([fz l 0]++j):=by
 have i:0<l.length:=jf.2 f;have o:=NS l 0 (l.length-1);have c:=Hl (fz a) f;have g:LA (fz a) l≠ []:=λe=>by rw[e] at c;simp at c;omega
 have b:fz (LA (fz a) l) ((LA (fz a) l).length-1)=fz l 0:=by rw[c];exact Or (fz a) f
 have h:=(mU a (Mi l 0 (l.length-1)) j 0 (l.length-1) (by omega) (by omega) (by omega) (λy k=>t y ((Fb i (by omega)).mem_iff.1 k))).top;refine Av func224 Z Z ntmps224 Z Z Z λF v=>(AC (AE (AB Z Z (AD ?_))));refine AC (AE (ek Z Z (V (Ea tO (WI a l j) Z [1,2,5,6] ⟨Z,Z,Z,Z,trivial⟩ Z Z Z Z Z Z Z Z Z) (J (P4 Z Z (Ξ _ (by omega)) Z) (AB Z Z (AD (AC (fj 3 (.d (AT (l.length-1))) Z (eqv (gV AF (by omega))) ?_))))))));refine AE (ek Z Z (ek Z Z (V (Ea dN (RU a l j 0 (l.length-1) i (by omega)) Z [1,2,5,6] ⟨Z,Z,Z,Z,trivial⟩ Z Z Z Z Z Z Z Z Z) (AD (AC (AE (ek Z Z (ek Z Z ?_))))))));refine V (FH h Z [1,2,5,6] ⟨Z,Z,Z,Z,trivial⟩ Z Z Z Z Z Z Z Z Z) (AD (AC (AE (ek Z Z (V (Ea vA (ld a (LA (fz a) l) j g (by omega)) Z [1,2,5,6] ⟨Z,Z,Z,Z,trivial⟩ Z Z Z Z Z Z Z Z Z) (AB Z Z (AD (A2 ?_))))))));exact ⟨_,[1,2,5,6],_,A0 Z,Z,Z,by rw[b],by rw[b,c];rfl⟩
theorem c7(c:List Nat)(g:List (List Nat))(K:GB g)(hK:∀a b,a<g.length->b<g.length->(fz c) a=(fz c) b->a=b)(u:g.length=c.length):AP prog 181 [.d (Ms g),.fn 182 [.ptr 5 0 0]] (HL c) λr H'=>r= .d (.tup [gD (iJ g (fz c)),Ah (decide ((iJ g (fz c)).length=g.length))])/\H'=(HL c):=by
 have hn:=K.n;refine Av func181 Z Z ntmps181 Z Z Z λF v=>(AC (AE (AB Z Z (AB Z Z (AD ?_)))));refine AC (AE (ek Z Z (J (Jd Z (χ ..) S1 Z) (V (FL 0 BR Z Z Z (by omega) oj Z Z Z Z) (AB Z Z (AD (AC (AC ?_))))))));rw[s9];refine AE (ek Z Z (J (Jd Z (χ ..) S1 Z) (ek Z Z (AD (AZ (BM (α:=Nat×List Nat) (λq=>⟨102,[(0,.d (Ms g)),(1,.fn 182 [.ptr 5 0 0]),(6,(.own 0 0 g.length)),(21,(.d (Ms g))),(22,(.d (AT g.length))),(23,(.d (AT q.1)))],[(0,[.rowD 3 1 (q.2.map AT)])]++HL c⟩) (λq=>q.1<=g.length/\CW g q.1 0 q.2) (λq=>g.length-q.1) ((0,List.replicate g.length 0)) (⟨ζ _,m5 g⟩) (AX v [0,5,6] Z Z ⟨Z,Z,Z,Z,Z,Z,trivial⟩) ?_))))));rintro ⟨i,w⟩ ⟨hi,D⟩;dsimp only at hi D⊢;refine AC (AE (J (Az Z Z Z) (AD (AC (A6 Z (λR=>?_) (λR=>?_))))))
 .refine AW (AC (AZ (AC ?_)));have h:i<g.length:=BQ R;have hsl:=K.len h;refine AE (J (BC (i) Z Z (Z) (Zo h) S1 Z DD Z) (J (CG Z Z BH Z) (AB Z Z ?_)));refine AD (AC (AE (ek Z Z (J (Jd Z (χ ..) E0 Z) (ek Z Z (AD (AZ (BM (α:=Nat×List Nat) (λq=>⟨102,[(0,.d (Ms g)),(1,.fn 182 [.ptr 5 0 0]),(6,(.own 0 0 g.length)),(21,(.d (Ms g))),(22,(.d (AT g.length))),(23,(.d (AT i))),(27,(.d (gD (fm g i)))),(28,(.d (AT (fm g i).length))),(29,(.d (AT q.1)))],[(0,[.rowD 3 1 (q.2.map AT)])]++HL c⟩) (λq=>q.1<=(fm g i).length/\CW g i q.1 q.2) (λq=>(fm g i).length-q.1) ((0,w)) (⟨ζ _,D⟩) (AX v [0,5,6] Z Z ⟨Z,Z,Z,Z,Z,Z,Z,Z,Z,trivial⟩) ?_))))))));rintro ⟨k,w⟩ ⟨hk,D⟩;dsimp only at hk D⊢;refine AC (AE (J (Az Z Z Z) (AD (AC (A6 Z (λQ=>?_) (λQ=>?_))))))
  .refine AW (AC (AZ (AC ?_)));have s:k<(fm g i).length:=BQ Q;have B:=m6 K D h s;have u:fz (fm g i) k<g.length:=by rw[<-D.len];exact B.1
   refine AE ?_;refine J (BC (k) Z Z (Z) (Ow s) E0 Z BW Z) (J (CG Z Z Am Z) (AB Z Z (AD (AE (ek Z Z (ek Z Z (J (DB (fz (fm g i) k) Z Z (Z) (u) Z E0 BW Z) (J (EC Z Z (Ow B.1) Z Am Z) ?_))))))));refine J (Aj Z Z (Ξ _ (by omega)) Z) (Pq 37 (.d (AT (fz w (fz (fm g i) k)+1))) Z (eqv (gV AF (by omega))) (J (DB (fz (fm g i) k) Z Z (Z) (u) Z E0 BW Z) (V (FY (emb:=AT) w (fz w (fz (fm g i) k)+1) Z Z Z Z Z Z B.1 Z BW) (AD (AE (J (Aj Z Z (Ξ _ (by omega)) Z) (ek Z Z (AD ?_))))))));exact ⟨(k+1,w.set (fz (fm g i) k) (fz w (fz (fm g i) k)+1)),⟨s,B.2.2⟩,by show (fm g i).length-(k+1)<(fm g i).length-k;omega,AX v [0,5,6] Z (Z) ⟨Z,Z,Z,Z,Z,Z,Z,Z,Z,trivial⟩⟩
  .refine Aw ?_;have hke:k=(fm g i).length:=by have:=Q;omega
   subst hke;refine AE (J (Aj Z Z (Ξ _ (by omega)) Z) (ek Z Z (AD ?_)));exact ⟨(i+1,w),⟨h,qx D⟩,by show g.length-(i+1)<g.length-i;omega,AX v [0,5,6] Z (Z) ⟨Z,Z,Z,Z,Z,Z,trivial⟩⟩
 .refine Aw (AC ?_);have I:i=g.length:=by have:=R;omega
  subst I;obtain ⟨X,hwd⟩:=qy D;refine AE (ek Z Z (J (E5 rr sh Z Z Z) (V (kt 1 Z Z Z Z Z Z Z) (AB Z Z (AD (AC ?_))))));refine AC (Wh 1 0 0 2 BR Z Z Z Z Z Z Z (AE (ek Z Z (J (RL Z E0 Z) (ek Z Z (AD (AZ (BM (α:=Nat×List Nat×List Nat) (λq=>⟨102,[(0,.d (Ms g)),(1,.fn 182 [.ptr 5 0 0]),(6,(.own 0 0 g.length)),(11,(.ptr 1 0 0)),(44,(.own 0 0 g.length)),(45,(.d (AT g.length))),(46,(.d (AT q.1)))],NG c q.2.1 q.2.2++ [(0,[.rowD 3 1 (w.map AT)])]⟩) (λq=>q.1<=g.length/\FI (fz c) w q.1 q.2.1) (λq=>g.length-q.1) ((0,[],[])) (⟨ζ _,mJ _ w⟩) (AX v [1,2,5,6,0] Z Z ⟨Z,Z,Z,Z,Z,Z,Z,trivial⟩) ?_))))))));rintro ⟨i,l,j⟩ ⟨hi,E⟩;dsimp only at hi E⊢;have hfl:=E.le;refine AC (AE (J (Az Z Z Z) (AD (AC (A6 Z (λP=>?_) (λP=>?_))))))
  .refine AW (AC (AZ (AC ?_)));have h:i<g.length:=BQ P;refine AE (ek Z Z (J (DB (i) Z Z (Z) (h) Z E0 BW Z) (J (EC Z Z (Ow (by rw[X];exact h)) Z Am Z) ?_)));refine AB Z Z (AB Z Z (AD (AC (AE (ek Z Z (J (GR Z Z Z) (AD (A6 Z (λO=>?_) (λO=>?_)))))))))
   .refine AE (ek Z Z ?_);refine J (H4 cI Z Z) (ek Z Z (J (G6 sf Z Z) (V (FH (UN c l j i (by omega) (λx H=>by rw[<-u];have:=((E.mem x).1 H).1;omega) (by rw[<-u];exact h)) Z [1,2,5,6] ⟨Z,Z,Z,Z,trivial⟩ Z Z Z Z Z Z Z Z Z) (AD (AE (J (Aj Z Z (Ξ _ (by omega)) Z) (ek Z Z (AD ?_))))))));exact ⟨(i+1,Mr (fz c) l i,[]),⟨h,mL E (Int.ofNat.inj O)⟩,by show g.length-(i+1)<g.length-i;omega,AX v [1,2,5,6,0] Z (Z) ⟨Z,Z,Z,Z,Z,Z,Z,trivial⟩⟩
   .refine AW (AE (J (Aj Z Z (Ξ _ (by omega)) Z) (ek Z Z (AD ?_))));exact ⟨(i+1,l,j),⟨h,mK E (λe=>O (gV Int.ofNat e))⟩,by show g.length-(i+1)<g.length-i;omega,AX v [1,2,5,6,0] Z (Z) ⟨Z,Z,Z,Z,Z,Z,Z,trivial⟩⟩
  .refine Aw (AC ?_);have I:i=g.length:=by have:=P;omega
   subst I;have hoi:=l0 X hwd E.nd E.mem E.hp;refine AE (AB Z Z (AD (AC (AZ (NF 14 7 BR Z Z Z Z (BM (α:=List Nat×List Nat×List Nat×List Nat) (λq=>⟨102,[(0,.d (Ms g)),(1,.fn 182 [.ptr 5 0 0]),(6,(.own 0 0 g.length)),(11,(.ptr 1 0 0)),(14,(.own 7 0 q.2.2.2.length))],NG c q.2.1 q.2.2.1++ [(0,[.rowD 3 1 (q.1.map AT)]),(7,[.rowD 3 1 (q.2.2.2.map AT)])]⟩) (λq=>OI g (fz c) q.1 q.2.1 q.2.2.2 []) (λq=>g.length-q.2.2.2.length) ((w,l,j,[])) (hoi) (AX v [1,2,5,6,0,7] Z Z ⟨Z,Z,Z,Z,Z,trivial⟩) ?_))))));rintro ⟨w,l,j,f⟩ S;dsimp only at S⊢;have hol:=oO S;refine AC (AC (AE (ek Z Z (V (FH (WI c l j) Z [1,2,5,6] ⟨Z,Z,Z,Z,trivial⟩ Z Z Z Z Z Z Z Z Z) (J (HV Z Z Z) (AD (A6 Z (λN=>?_) (λN=>?_))))))))
   .refine AW (AZ (AC ?_));have C:l≠ []:=λe=>by subst e;exact absurd N (by decide)
    have ho1:=pf S C;have H:fz l 0<g.length:=S.lt _ (ϖ.2 (.inr (Du (jf.2 C))));have hol1:f.length+1<=g.length:=by have:=jf.2 C;omega
    refine AE (ek Z Z (J (H4 cI Z Z) (V (FH (mC c l j C (by omega) (λz hz=>by rw[<-u];exact S.lt z (ϖ.2 (.inr hz)))) Z [1,2,5,6] ⟨Z,Z,Z,Z,trivial⟩ Z Z Z Z Z Z Z Z Z) (J (OJ Z sf Z Z) (AB Z Z (AD (AC ?_)))))))
    obtain ⟨x,hxe⟩:∃x,fz l 0=x:=⟨_,Z⟩
    rw[hxe] at ho1 H⊢;refine AE (ek Z Z (ek Z Z (V (C1 21 BR Z Z Z Z Z Z Z Z) (V (Ev (emb:=AT) f [x] Z Z Z Z Z Z Z Z BR (by show (f.length+1)*8<=_;omega) Z Z Z Z) (AB Z Z (AD (AC (AE ?_))))))));refine ek Z Z (ek Z Z (J (BC (x) Z Z (Z) (Zo H) S1 Z DD Z) (J (CG Z Z BH Z) (J (Jd Z (χ ..) E0 Z) (ek Z Z (AD (AZ (BM (α:=Nat×List Nat×List Nat×List Nat) (λq=>⟨102,[(0,.d (Ms g)),(1,.fn 182 [.ptr 5 0 0]),(6,(.own 0 0 g.length)),(11,(.ptr 1 0 0)),(14,(.own 7 0 (f++ [x]).length)),(73,(.d (gD (fm g x)))),(74,(.d (AT (fm g x).length))),(75,(.d (AT q.1)))],NG c q.2.2.1 q.2.2.2++ [(0,[.rowD 3 1 (q.2.1.map AT)]),(7,[.rowD 3 1 ((f++ [x]).map AT)])]⟩) (λq=>q.1<=(fm g x).length/\OI g (fz c) q.2.1 q.2.2.1 (f++ [x]) ((fm g x).drop q.1)) (λq=>(fm g x).length-q.1) ((0,w,Pv (fz c) l,[x]++j)) (⟨ζ _,ho1⟩) (AX v [1,2,5,6,0,7] Z Z ⟨Z,Z,Z,Z,Z,Z,Z,Z,trivial⟩) ?_))))))));rintro ⟨k,w,l,j⟩ ⟨hk,o⟩;dsimp only at hk o⊢;refine AC (AE (J (Az Z Z Z) (AD (AC (A6 Z (λM=>?_) (λM=>?_))))))
    .refine AW (AC (AZ (AC ?_)));have s:k<(fm g x).length:=BQ M;have hsl2:=K.len H;have t:fz (fm g x) k<g.length:=K.suc H (Du s);rw[ei s] at o;obtain ⟨hw1,U,T⟩:=pk o t;have Y:=oO o;have W:=o.len;have hgn:=Ow s
     obtain ⟨y,hye⟩:∃y,fz (fm g x) k=y:=⟨_,Z⟩
     rw[hye] at t hw1 U T hgn o;have G:y<w.length:=by rw[W];exact t
     have hwb:fz w y<=100000000000:=by have:=pc K o t (by rw[jT];have:=K.len H;omega);omega
     refine AE (J (BC (k) Z Z (Z) (hgn) E0 Z BW Z) (J (CG Z Z Am Z) (AB Z Z (AD (AC (AE ?_))))));refine ek Z Z (ek Z Z (J (DB (y) Z Z (Z) (t) Z E0 BW Z) (J (EC Z Z (Ow G) Z Am Z) (J (P4 Z Z (Ξ _ (by omega)) Z) (Pq 83 (.d (AT (fz w y-1))) Z (eqv (gV AF (by omega))) (J (DB (y) Z Z (Z) (t) Z E0 BW Z) (V (FY (emb:=AT) w (fz w y-1) Z Z Z Z Z Z G Z BW) (AD ?_))))))));refine AC (AE (ek Z Z (ek Z Z (J (DB (y) Z Z (Z) (t) Z E0 BW Z) (J (EC Z Z (qe G) Z Am Z) (J (GR Z Z Z) (AD (A6 Z (λL=>?_) (λL=>?_)))))))))
     .have A:fz w y-1=0:=Int.ofNat.inj L;refine AE (ek Z Z ?_);refine J (H4 cI Z Z) (ek Z Z (J (G6 sf Z Z) (V (FH (UN c l j y (by rw[Δ,υ] at Y;omega) (λz hz=>by rw[<-u];exact o.lt z (ϖ.2 (.inr hz))) (by rw[<-u];exact t)) Z [1,2,5,6] ⟨Z,Z,Z,Z,trivial⟩ Z Z Z Z Z Z Z Z Z) (AD (AE (J (Aj Z Z (Ξ _ (by omega)) Z) (ek Z Z (AD ?_))))))));exact ⟨(k+1,w.set y (fz w y-1),Mr (fz c) l y,[]),⟨s,U A⟩,by show (fm g x).length-(k+1)<(fm g x).length-k;omega,AX v [1,2,5,6,0,7] Z (Z) ⟨Z,Z,Z,Z,Z,Z,Z,Z,trivial⟩⟩
     .have A:fz w y-1≠0:=λe=>L (gV Int.ofNat e);refine AW (AE (J (Aj Z Z (Ξ _ (by omega)) Z) (ek Z Z (AD ?_))));exact ⟨(k+1,w.set y (fz w y-1),l,j),⟨s,T A⟩,by show (fm g x).length-(k+1)<(fm g x).length-k;omega,AX v [1,2,5,6,0,7] Z (Z) ⟨Z,Z,Z,Z,Z,Z,Z,Z,trivial⟩⟩
    .refine Aw ?_;exact ⟨(w,l,j,f++ [x]),pe o (show k=(fm g x).length by have:=M;omega),by show g.length-(f++ [x]).length<g.length-f.length;rw[Δ,υ];omega,AX v [1,2,5,6,0,7] Z (Z) ⟨Z,Z,Z,Z,Z,trivial⟩⟩
   .refine Aw (AC ?_);have hl0:l=[]:=List.length_eq_zero_iff.1 (by have:=N;omega);have hE:=pj (hl0▸S);have hoe:=lW hK hE.1 hE.2;refine KL (emb:=AT) 14 7 f Z Z Z Z Z Z Z (AE (ek Z Z ?_));refine ek Z Z (J (BS Z E0 Z) (ek Z Z (J (BS Z S1 Z) (J (GR Z Z Z) (AB Z Z (AB Z Z (AD (A2 ?_))))))));exact ⟨_,[5,6],_,A0 Z,Z,Z,by rw[hoe];exact gV (λb=>AV.d (.tup [gD f,Ah b])) (decide_eq_decide.2 Int.ofNat_inj),Z⟩
theorem Ue(g:List (List Nat))(U:GT g):AP prog 134 [.d (Ms g)] [] λr H'=>∃of cnt,iL g.length (fm g) of cnt/\r= .tup [.own 10 0 cnt,.d (gD ((List.range g.length).map λv=>gj g of cnt (of v)))]/\H'=[(10,[.rowD 28 1 ((eC cnt (GP (λv=>gj g of cnt (of v)) g.length)).map gD)])]:=by
 have hn:=U.gb.n;refine Av func134 Z Z ntmps134 Z Z Z λF A=>(AC (AE (AB Z Z (AB Z Z (AD (AC (AE (ek Z Z ?_))))))));refine Ca (VV (Uf g U.gb) Z [2] ⟨Z,trivial⟩ Z Z Z Z (λr H' ⟨of,cnt,h1,h2,h3⟩=>by subst h2 h3;exact ⟨Z,Z,Z⟩) Z) Z ?_;rintro _ ⟨r,H',⟨of,cnt,t,rfl,rfl⟩,rfl⟩;refine ek Z Z (J (DC Z Z Z) (J (DC Z Z Z) (AB Z Z (AB Z Z (AD (AC ?_))))));have hcn:=t.le;refine AE (ek Z Z (V (FL 6 BR Z Z Z (by omega) oj Z Z Z Z) (V (Bx 5 ru Z Z Z Z) (V (B3 Z Z Z Z Z Z Z DD) (AD (AC (AC ?_)))))));rw[pR];refine AE (ek Z Z (J (Jd Z (χ ..) S1 Z) (J (P4 Z Z (Ξ _ (by omega)) Z) (Pq 29 (.d (AF ((g.length:Int)-1-((0:Nat):Int)))) Z (eqv (gV AF (by omega))) (AB Z Z (AD (AZ (BM (α:=Nat) (λd=>⟨142,[(0,.d (Ms g)),(4,(.own 2 0 g.length)),(5,(.d (AT cnt))),(6,(.ptr 5 0 0)),(7,(.d (AF ((g.length:Int)-1-(d:Int)))))],[(2,[.rowD 3 1 (rowN g.length of)]),(5,[.blk 28 [.own 6 0 cnt]]),(6,[.rowD 3 1 (rowN cnt (kP of g.length d))])]⟩) (λd=>d<=g.length) (λd=>g.length-d) (0) (ζ _) (AX A [2,5,6] Z Z ⟨Z,Z,Z,Z,Z,trivial⟩) ?_))))))));intro d hd;refine AC (AC (AE (ek Z Z (J (EN Z Z Z) (AD (A6 Z (λh31=>?_) (λh31=>?_)))))))
 .refine AW (AC (AZ ?_));have P:g.length-1-d<g.length:=by omega
  refine fj 7 (.d (AT (g.length-1-d))) Z (eqv (gV AF (by omega))) ?_;have hoc:=t.lt _ P;refine CK [[],[],[],[1,2],[1,2,3],[],rg 6,rg 7] mixed Z (By (Ao [6] Z Z (λ_=>Aa (AO Z Z Z BH Z)) ?_));refine Ap 4 Z Z (Ap 7 Z Z (Ao [35,36] Z Z (λ_=>Aa (DB (g.length-1-d) Z Z (Z) (P) Z E0 BW Z)) (Ao [37] Z Z (λ_=>Aa (EC Z Z (Np P) Z Am Z)) (Ap 7 Z Z (Bu 6 Z Z Z (Ab 7 Z Z (J (DB (of (g.length-1-d)) Z Z (Z) (hoc) Z E0 BW Z) (AD ⟨Z,?_⟩))))))));refine Ab 8 Z Z (V (YR Z Z Z Z Z (by rw[Dm];exact hoc) Dl Z BW) (AD ⟨Z,?_⟩));refine Bz (AE (ek Z Z (J (P4 Z Z (Ξ _ (by omega)) Z) (Pq 33 (.d (AF ((g.length:Int)-1-((d+1:Nat):Int)))) Z (eqv (gV AF (by omega))) (AB Z Z (AD ?_))))));exact ⟨d+1,by omega,by omega,AX A [2,5,6] Z (Z) ⟨Z,Z,Z,Z,Z,trivial⟩⟩
 .refine Aw (AC ?_);have hdn:d=g.length:=by omega
  subst hdn;refine AE (ek Z Z (V (FL 7 XH Z Z Z (by omega) sD Z Z Z Z) (AB Z Z (AD (AC (AC ?_))))));refine RJ 7 0 (iO cnt (λ_=>none) (λ_=> [])) Z (by rw[Fj,List.length_replicate]) (Tn cnt) ⟨XT _,Ke _ _ _⟩ Z (IC 40 Z Z Z (AE (ek Z Z (J (Jd Z (χ ..) S1 Z) (ek Z Z (AD (AZ (BM (α:=Nat×MF×(Nat->Hd)) (λq=>⟨142,[(0,.d (Ms g)),(4,(.own 2 0 g.length)),(5,(.d (AT cnt))),(6,(.ptr 5 0 0)),(8,(.own 7 0 cnt)),(43,(.d (Ms g))),(44,(.d (AT g.length))),(45,(.d (AT q.1)))],[(2,[.rowD 3 1 (rowN g.length of)]),(5,[.blk 28 [.own 6 0 cnt]]),(6,[.rowD 3 1 (rowN cnt (kP of g.length g.length))]),(7,[.rowD 28 1 (iO cnt q.2.2 (Ni g of q.1 0))]),(40,[.multi q.2.1])]⟩) (λq=>q.1<=g.length/\NT q.2.1 cnt q.2.2 (Ni g of q.1 0)) (λq=>g.length-q.1) ((0,λ_=>none,λ_=>none)) (⟨ζ _,by rw[eX];exact NT.zero _⟩) (AX A [2,5,6,7,40] Z Z ⟨Z,Z,Z,Z,Z,Z,Z,Z,trivial⟩) ?_))))))));rintro ⟨i,M,G⟩ ⟨hi,z⟩;dsimp only at hi z⊢;refine AC (AE (J (Az Z Z Z) (AD (AC (A6 Z (λT=>?_) (λT=>?_))))))
  .refine AW (AC (AZ (AC ?_)));have l:i<g.length:=BQ T;have s:=t.lt i l;refine AE (ek Z Z (J (BC (i) Z Z (Z) (Zo l) S1 Z DD Z) (J (CG Z Z BH Z) (AB Z Z (AB Z Z ?_)))));refine AD (AC (AE (ek Z Z (J (Jd Z (χ ..) E0 Z) (ek Z Z (AD (AZ (BM (α:=Nat×MF×(Nat->Hd)) (λq=>⟨142,[(0,.d (Ms g)),(4,(.own 2 0 g.length)),(5,(.d (AT cnt))),(6,(.ptr 5 0 0)),(8,(.own 7 0 cnt)),(9,(.d (AT i))),(43,(.d (Ms g))),(44,(.d (AT g.length))),(45,(.d (AT i))),(50,(.d (gD (fm g i)))),(51,(.d (AT (fm g i).length))),(52,(.d (AT q.1)))],[(2,[.rowD 3 1 (rowN g.length of)]),(5,[.blk 28 [.own 6 0 cnt]]),(6,[.rowD 3 1 (rowN cnt (kP of g.length g.length))]),(7,[.rowD 28 1 (iO cnt q.2.2 (Ni g of i q.1))]),(40,[.multi q.2.1])]⟩) (λq=>q.1<=(fm g i).length/\NT q.2.1 cnt q.2.2 (Ni g of i q.1)) (λq=>(fm g i).length-q.1) ((0,M,G)) (⟨ζ _,z⟩) (AX A [2,5,6,7,40] Z Z ⟨Z,Z,Z,Z,Z,Z,Z,Z,Z,Z,Z,Z,trivial⟩) ?_))))))));rintro ⟨k,M,G⟩ ⟨hk,z⟩;dsimp only at hk z⊢;refine AC (AE (J (Az Z Z Z) (AD (AC (A6 Z (λS=>?_) (λS=>?_))))))
   .refine AW (AC (AZ (AC ?_)));have o:k<(fm g i).length:=BQ S;have hgn:=Ow o;have hsl:=U.gb.len l;have D:fz (fm g i) k<g.length:=U.gb.suc l (Du o);have H:=eY (of:=of) o;have I:=eZ (of:=of) o
    obtain ⟨j,hje⟩:∃j,fz (fm g i) k=j:=⟨_,Z⟩
    rw[hje] at hgn D H I;have hln:=YA g of i k (of i);have hlt:=gY (QI g (Nat.le_of_lt l)) U.tot;have hlt2:((fm g i).take k).length<=1048576:=by rw[ϱ];omega
    refine AE (J (BC (k) Z Z (Z) (hgn) E0 Z BW Z) ?_);refine J (CG Z Z Am Z) (AB Z Z (AD (AC (CK [[],[],[0,1],[0,1,2],[],[],[4,5],[4,5,6],rg 8] mixed Z (By (Ap 4 Z Z (Ap 9 Z Z (Ao [56,57] Z Z (λ_=>Aa (DB (i) Z Z (Z) (l) Z E0 BW Z)) ?_))))))));refine Ao [58] Z Z (λ_=>Aa (EC Z Z (Np l) Z Am Z)) (Ap 4 Z Z (Ap 12 Z Z (Ao [60,61] Z Z (λ_=>Aa (DB (j) Z Z (Z) (D) Z E0 BW Z)) (Ao [62] Z Z (λ_=>Aa (EC Z Z (Np D) Z Am Z)) (Bu 8 Z Z Z (Ab 9 Z Z (J (C6 Z Z Z) (AD ⟨Z,?_⟩))))))));refine Bz (A6 Z (λR=>?_) (λR=>?_))
    .have w:=H (λe=>R (gV Int.ofNat e));refine CK [[],[],[],[1,2],[1,2,3],[],[],[],[6,7],[6,7,8],[5,6,7,8,9],[5,6,7,8,9,10],[],[],[12,13],[12,13,14],[12,13,14,15],[5,6,7,8,9,10,11,12,13,14,15,16],rg 18,rg 19] mixed Z (By (Ap 8 Z Z (Ap 4 Z Z (Ap 9 Z Z (Aq [66,67] [2] Z Z (λ_=>Aa (DB (i) Z Z (Z) (l) Z E0 BW Z)) (Aq [68] [2] Z Z (λ_=>Aa (EC Z Z (Np l) Z Am Z)) ?_))))));refine Ap 8 Z Z (Ap 4 Z Z (Ap 9 Z Z (Aq [71,72] [2] Z Z (λ_=>Aa (DB (i) Z Z (Z) (l) Z E0 BW Z)) (Aq [73] [2] Z Z (λ_=>Aa (EC Z Z (Np l) Z Am Z)) (Aq [70,74] [7] Z Z (λ_=>Aa (DB (of i) Z Z (Z) (s) Z S1 DD Z)) (Aq [75] [7] Z Z (λ_=>Aa (EC Z Z (K5 s) Z BH Z)) (Ap 4 Z Z (Ap 12 Z Z ?_))))))));refine Aq [77,78] [2] Z Z (λ_=>Aa (DB (j) Z Z (Z) (D) Z E0 BW Z)) (Aq [79] [2] Z Z (λ_=>Aa (EC Z Z (Np D) Z Am Z)) (F6 [80] [21] [(81,_)] Z Z (λ_=>F7 (C1 21 BR Z Z Z Z Z Z Z Z)) (.inr ⟨81,_,Z,Z,Z,Z,Z⟩) Z Z Z Z Z (F6 [76,81] [60,40,21] [(82,_)] Z Z (λ_=>F7 (H7 76 60 40 (z.at_ (of i) s) Z Z (by rw[χ]) Z Z Z Z Z (Ev (emb:=AT) (Ni g of i k (of i)) [of j] Z Z Z Z Z Z Z Z BR (by show ((Ni g of i k (of i)).length+1)*8<=_;omega) Z Z Z Z))) (.inr ⟨82,_,Z,Z,Z,Z,Z⟩) Z Z Z Z Z (Bu 18 Z Z Z (Ab 19 Z Z (F2 82 60 40 A Z Z Z (by rw[χ]) (by simp) Z Z Z Z Z Z Z (λ_ _=>rfl) λb c hb hc=>(J (DB (of i) Z Z (Z) (s) Z S1 DD Z) (AD ⟨Z,?_⟩))))))));refine Ab 20 Z Z (V (YR Z Z Z Z Z (by rw[Fj];exact s) (TL (h:=some (b,c))) Z DD) (AD ⟨Z,?_⟩));refine Bz (AE (J (Aj Z Z (Ξ _ (by omega)) Z) (ek Z Z (AD ?_))));exact ⟨(k+1,B5 (Bi M (G (of i))) b (.row 3 1 c ((Ni g of i k (of i)++ [of j]).map AT)),BJ G (of i) (some (b,c))),⟨o,by have:=z.app s hb hc;rw[w] at this;exact this⟩,by show (fm g i).length-(k+1)<(fm g i).length-k;omega,AX A [2,5,6,7,40] Z (by rw[w];rfl) ⟨Z,Z,Z,Z,Z,Z,Z,Z,Z,Z,Z,Z,trivial⟩⟩
    .have X:=I (λh=>R (λe=>h (Int.ofNat.inj e)));refine AW (AE (J (Aj Z Z (Ξ _ (by omega)) Z) (ek Z Z (AD ?_))));exact ⟨(k+1,M,G),⟨o,by rw[<-X];exact z⟩,by show (fm g i).length-(k+1)<(fm g i).length-k;omega,AX A [2,5,6,7,40] Z (by rw[<-X];rfl) ⟨Z,Z,Z,Z,Z,Z,Z,Z,Z,Z,Z,Z,trivial⟩⟩
   .refine Aw ?_;have hke:k=(fm g i).length:=by have:=S;omega
    subst hke;refine AE (J (Aj Z Z (Ξ _ (by omega)) Z) (ek Z Z (AD ?_)));exact ⟨(i+1,M,G),⟨l,by rw[<-Xz];exact z⟩,by show g.length-(i+1)<g.length-i;omega,AX A [2,5,6,7,40] Z (by rw[Xz];rfl) ⟨Z,Z,Z,Z,Z,Z,Z,Z,trivial⟩⟩
  .refine Aw (AC ?_);have N:i=g.length:=by have:=T;omega
   subst N;refine fg 7 0 40 ((LS g of cnt).map gD) Z Z Z Z Z (by rw[χ,LS,VG,Fj]) z.melt ⟨Ke _ _ _,cb _⟩ Z (KL (emb:=gD) 8 7 (LS g of cnt) Z Z Z (VG _ _).symm Z Z Z ?_);rw[bt cnt];have hll:=ln of g.length cnt;have hob:=c7 (VQ of g.length cnt) (LS g of cnt) (qn U t) (by rw[LS,VG];exact qD t) (by rw[LS,VG,hll]);rw[<-VQ,show (AV.own 6 0 cnt)= .own 6 0 (VQ of g.length cnt).length by rw[hll]];refine AE (ek Z Z ?_);refine J (rP Z Z) (V (FH hob Z [5,6] ⟨Z,Z,trivial⟩ Z Z Z Z Z Z Z Z Z) (ek Z Z (J (De Z Z Z) (J (De Z Z Z) (AB Z Z (AB Z Z (AD (AC ?_))))))));have hsq:iJ (LS g of cnt) (fz (VQ of g.length cnt))=ii g of cnt:=rfl;have y:=c9 (LS g of cnt) (fz (VQ of g.length cnt));have B:∀k,k<(ii g of cnt).length->fz (ii g of cnt) k<cnt:=λk hk=>by have:=lV (g:=LS g of cnt) (K:=fz (VQ of g.length cnt)) hk;rwa [LS,VG] at this
   rw[LS,VG,<-LS] at y;rw[hsq] at y⊢;refine AE (ek Z Z (V (FL 9 BR Z Z Z (by omega) oj Z Z Z Z) (AB Z Z (AD (AC (AC ?_))))));rw[pR]
   obtain ⟨a,C⟩:∃a,ii g of cnt=a:=⟨_,Z⟩
   rw[C] at y B⊢;refine AE (ek Z Z (J (Jd Z (χ ..) E0 Z) (ek Z Z (AD (AZ (BM (α:=Nat) (λk=>⟨142,[(0,.d (Ms g)),(4,(.own 2 0 g.length)),(5,(.d (AT cnt))),(15,(.own 9 0 cnt)),(94,(.d (gD a))),(95,(.d (AT a.length))),(96,(.d (AT k)))],[(2,[.rowD 3 1 (rowN g.length of)]),(9,[.rowD 3 1 (rowN cnt (Df a k))])]⟩) (λk=>k<=a.length) (λk=>a.length-k) (0) (ζ _) (AX A [2,9] Z Z ⟨Z,Z,Z,Z,Z,Z,Z,trivial⟩) ?_))))));intro k hk;refine AC (AE (J (Az Z Z Z) (AD (AC (A6 Z (λQ=>?_) (λQ=>?_))))))
   .refine AW (AC (AZ (AC ?_)));have o:k<a.length:=BQ Q;refine AE (ek Z Z (J (BC (k) Z Z (Z) (Ow o) E0 Z BW Z) (J (CG Z Z Am Z) (AB Z Z (AB Z Z (AD (AE (ek Z Z ?_))))))));refine ek Z Z (ek Z Z (J (DB (fz a k) Z Z (Z) (B k o) Z E0 BW Z) (V (YR Z Z Z Z Z (by rw[Dm];exact B k o) Dl Z BW) (AD (AE (J (Aj Z Z (Ξ _ (by omega)) Z) (ek Z Z (AD ?_))))))));exact ⟨k+1,o,by omega,AX A [2,9] Z (Z) ⟨Z,Z,Z,Z,Z,Z,Z,trivial⟩⟩
   .refine Aw (AC ?_);have hks:k=a.length:=by have:=Q;omega
    subst hks;refine AE (ek Z Z (V (FL 10 OL Z Z Z (by omega) sD Z Z Z Z) (AB Z Z (AD (AC (AC (RJ 10 0 (iO cnt (λ_=>none) (λ_=> [])) Z (by rw[Fj,List.length_replicate]) (Tn cnt) ⟨XT _,Ke _ _ _⟩ Z (IC 40 Z Z Z ?_))))))));have hno:∀v,v<g.length->Df a a.length (of v)<cnt:=λv hv=>X4 a (Nat.lt_of_le_of_lt (ζ _) (t.lt v hv)) y _ (Γ _) _;refine AE (ek Z Z (J (Jd Z (χ ..) S1 Z) (ek Z Z (AD (AZ (BM (α:=Nat×MF×(Nat->Hd)) (λq=>⟨142,[(0,.d (Ms g)),(4,(.own 2 0 g.length)),(15,(.own 9 0 cnt)),(18,(.own 10 0 cnt)),(109,(.d (AT g.length))),(110,(.d (AT q.1)))],[(2,[.rowD 3 1 (rowN g.length (l4 of (λv=>Df a a.length (of v)) q.1))]),(9,[.rowD 3 1 (rowN cnt (Df a a.length))]),(10,[.rowD 28 1 (iO cnt q.2.2 (GP (λv=>Df a a.length (of v)) q.1))]),(40,[.multi q.2.1])]⟩) (λq=>q.1<=g.length/\NT q.2.1 cnt q.2.2 (GP (λv=>Df a a.length (of v)) q.1)) (λq=>g.length-q.1) ((0,λ_=>none,λ_=>none)) (⟨ζ _,NT.zero _⟩) (AX A [2,9,10,40] Z Z ⟨Z,Z,Z,Z,Z,Z,trivial⟩) ?_))))));rintro ⟨i,M,G⟩ ⟨hi,z⟩;dsimp only at hi z⊢;refine AC (AE (J (Az Z Z Z) (AD (AC (A6 Z (λE=>?_) (λE=>?_))))))
    .refine AW (AC (AZ (AC ?_)));have l:i<g.length:=BQ E;have s:=t.lt i l;have w:=ZL (λv=>Df a a.length (of v)) i;have L:=cg of (λv=>Df a a.length (of v)) i;have u:=hno i l;have hofi:l4 of (λv=>Df a a.length (of v)) i i=of i:=κ (jz _);have hofj:l4 of (λv=>Df a a.length (of v)) (i+1) i=Df a a.length (of i):=ς (jG _);have hgo:=Np (f:=l4 of (λv=>Df a a.length (of v)) i) l;have O:=Np (f:=l4 of (λv=>Df a a.length (of v)) (i+1)) l;rw[hofi] at hgo;have Y:=Np (f:=Df a a.length) s
     first | dsimp only at w L | skip
     obtain ⟨x,W⟩:∃x,Df a a.length (of i)=x:=⟨_,Z⟩
     rw[hofj,W] at O;rw[W] at w L u Y;have hln:=c6 (λv=>Df a a.length (of v)) i x;refine AE (ek Z Z (AB Z Z (AD ?_)));refine AC (AE (ek Z Z (ek Z Z (ek Z Z (ek Z Z (ek Z Z (J (DB (i) Z Z (Z) (l) Z E0 BW Z) (J (EC Z Z (hgo) Z Am Z) ?_))))))));refine J (DB (of i) Z Z (Z) (s) Z E0 BW Z) (J (EC Z Z (Y) Z Am Z) (J (DB (i) Z Z (Z) (l) Z E0 BW Z) (V (YR Z Z Z Z Z (by rw[Dm];exact l) (Dl.trans (by rw[L])) Z BW) (AD (CK [[],[],[],[1,2],[1,2,3],[],[],[],[6,7],[6,7,8],[5,6,7,8,9],[5,6,7,8,9,10],[],[12],[5,6,7,8,9,10,11,12,13],rg 15,rg 16] mixed Z (By (Ap 18 Z Z (Ap 4 Z Z ?_))))))));refine Ap 19 Z Z (Aq [124,125] [2] Z Z (λ_=>Aa (DB (i) Z Z (Z) (l) Z E0 BW Z)) (Aq [126] [2] Z Z (λ_=>Aa (EC Z Z (O) Z Am Z)) (Ap 18 Z Z (Ap 4 Z Z (Ap 19 Z Z (Aq [129,130] [2] Z Z (λ_=>Aa (DB (i) Z Z (Z) (l) Z E0 BW Z)) (Aq [131] [2] Z Z (λ_=>Aa (EC Z Z (O) Z Am Z)) (Aq [128,132] [10] Z Z (λ_=>Aa (DB (x) Z Z (Z) (u) Z T1 DD Z)) ?_))))))));refine Aq [133] [10] Z Z (λ_=>Aa (EC Z Z (K5 u) Z BH Z)) (Ap 19 Z Z (F6 [135] [21] [(136,_)] Z Z (λ_=>F7 (C1 21 BR Z Z Z Z Z Z Z Z)) (.inr ⟨136,_,Z,Z,Z,Z,Z⟩) Z Z Z Z Z (F6 [134,136] [60,40,21] [(137,_)] Z Z (λ_=>F7 (H7 134 60 40 (z.at_ x u) Z Z (by rw[χ]) Z Z Z Z Z (Ev (emb:=AT) (GP (λv=>Df a a.length (of v)) i x) [i] Z Z Z Z Z Z Z Z BR (by show ((GP (λv=>Df a a.length (of v)) i x).length+1)*8<=_;omega) Z Z Z Z))) (.inr ⟨137,_,Z,Z,Z,Z,Z⟩) Z Z Z Z Z (Bu 15 Z Z Z (Ab 16 Z Z (F2 137 60 40 A Z Z Z (by rw[χ]) (by simp) Z Z Z Z Z Z Z (λ_ _=>rfl) λb c hb hc=>(J (DB (x) Z Z (Z) (u) Z T1 DD Z) (AD ⟨Z,?_⟩))))))));refine Ab 17 Z Z (V (YR Z Z Z Z Z (by rw[Fj];exact u) (TL (h:=some (b,c))) Z DD) (AD ⟨Z,?_⟩));refine Bz (AE (J (Aj Z Z (Ξ _ (by omega)) Z) (ek Z Z (AD ?_))));exact ⟨(i+1,B5 (Bi M (G x)) b (.row 3 1 c ((GP (λv=>Df a a.length (of v)) i x++ [i]).map AT)),BJ G x (some (b,c))),⟨l,by have:=z.app u hb hc;rw[w] at this;exact this⟩,by show g.length-(i+1)<g.length-i;omega,AX A [2,9,10,40] Z (by rw[w];rfl) ⟨Z,Z,Z,Z,Z,Z,trivial⟩⟩
    .refine Aw (AC ?_);have N:i=g.length:=by have:=E;omega
     subst N;have hof:rowN g.length (l4 of (λv=>Df a a.length (of v)) g.length)=((List.range g.length).map λv=>Df a a.length (of v)).map AT:=by rw[gw];exact hQ λv hv=>gV AT (ς (Ψ.1 hv))
     rw[hof];refine fg 10 0 40 ((eC cnt (GP (λv=>Df a a.length (of v)) g.length)).map gD) Z Z Z Z Z (by rw[χ,VG,Fj]) z.melt ⟨Ke _ _ _,cb _⟩ Z (KL (emb:=AT) 4 2 ((List.range g.length).map λv=>Df a a.length (of v)) Z Z Z (by simp) Z Z Z (AE (ek Z Z (ek Z Z (AB Z Z (AB Z Z (AD (A2 ?_))))))));exact ⟨_,[10],_,A0 Z,Z,Z,of,cnt,t,by unfold gj;rw[C],by unfold gj;rw[C]⟩
noncomputable def mc(g:List (List Nat)):(Nat->Nat)×Nat:=Classical.epsilon λp=>CN g.length (fm g) p.1 p.2
noncomputable def kO(g:List (List Nat)):Nat->Nat:=(mc g).1
noncomputable def iy(g:List (List Nat)):Nat:=(mc g).2
theorem SO(i:GB g){cnt:Nat}(h:CN g.length (fm g) c cnt):CN g.length (fm g) (kO g) (iy g)/\cnt=iy g/\∀v,v<g.length->c v=kO g v:=by
 have a:CN g.length (fm g) (mc g).1 (mc g).2:=Classical.epsilon_spec (p:=λp:(Nat->Nat)×Nat=>CN g.length (fm g) p.1 p.2) ⟨(c,cnt),h⟩;exact ⟨a,mg h a λv f y b=>i.suc f b⟩
noncomputable def gh(g:List (List Nat)):List (List Nat):=eC (iy g) (GP (kO g) g.length)
noncomputable def vZ(g:List (List Nat)):List Nat:=(List.range g.length).map (kO g)
theorem Vz{a:Nat->Nat}(h:∀v,v<f->c v=a v):GP c f=GP a f:=by grind[GP,jy]
theorem Ud(g:List (List Nat))(b:GT g):AP prog 134 [.d (Ms g)] [] λr h=>r= .tup [.own 10 0 (iy g),.d (gD (vZ g))]/\h=[(10,[.rowD 28 1 ((gh g).map gD)])]:=
 (Ue g b).mono λr h ⟨c,cnt,a,j,o⟩=>by
  obtain ⟨_,s,f⟩:=SO b.gb (W6 b a);have k:=Vz f;have l:(List.range g.length).map (λv=>gj g c cnt (c v))=vZ g:=hQ λv i=>f v (Ψ.1 i);rw[j,o,k,l,s];exact ⟨Z,Z⟩
def nl(g:List (List Nat)):List (List Int):=g.map (List.map Int.ofNat)
theorem ov(g:List (List Nat)):oX (nl g)=Ms g:=by simp[*,nl]
theorem KP(g:List (List Nat)):(nl g).length=g.length:=by simp[nl]
theorem Wr(g:List (List Nat)):∀i,i<=g.length->Lb (nl g) i=Jl g i
 | 0,_=>rfl
 | i+1,b=>by
  have a:=Wr g i (by omega);rw[La (by rw[KP];omega),a];unfold Jl;rw[iM,Ω,ji,List.map_singleton,List.sum_singleton,Ff (by omega)]
  simp[nl]
theorem rC(a:GT g):Uq (nl g)=0:=by
 have j:=a.gb.n;have i:=a.tot;refine (tr (by rw[KP];omega) (by rw[KP,Wr g _ (Γ _)];omega) ?_).symm;rintro ⟨l,h,x,c,k⟩;obtain ⟨m,f,rfl⟩:=Θ.1 h;obtain ⟨y,b,rfl⟩:=Θ.1 c;have:=a.gb.lt m f y b
 grind[KP]
theorem lD(h:a∈g):a.length<=Jl g g.length:=by
 obtain ⟨i,b,rfl⟩:=jC.1 h
 have c:Jl g (i+1)=Jl g i+g[i].length:=by
  grind[Jl,iM,Ff]
 have:=QI g (i:=i+1) (j:=g.length) (by omega);omega
theorem nA(g:List (List Nat))(a:GT g):AL prog 133 [.d (Ms g)] (AF 0):=by
 have i:=a.gb.n;have f:=a.tot
 have h:=fO (nl g) (by rw[KP];omega) λl c=>by
  obtain ⟨m,b,rfl⟩:=Θ.1 c;rw[χ];have:=lD b;omega
 rw[ov,rC a] at h;exact h
theorem SP(g:List (List Nat))(a:GT g):AP prog 80 [.d (Ms g)] [] λr b=>r= .tup [.own 10 0 (iy g),.d (AF 0)]/\b=[(10,[.rowD 28 1 ((gh g).map gD)])]:=by
 refine Av func80 Z Z ntmps80 Z Z Z λF c=>?_;refine AC (AE (AB Z Z (AB Z Z (AD (AC (AC (AE (ek Z Z ?_))))))));refine J (Au (nA g a) Z Z) (AB Z Z (AD (AC (AE (ek Z Z (J (C6 Z Z Z) (AD (Cr Z (gp (by decide)) ?_))))))));refine AW (AC (AE (ek Z Z (V (FH (Ud g a) Z [10] ⟨Z,trivial⟩ Z Z Z Z Z Z Z Z Z) (ek Z Z (J (DC Z Z Z) (J (DC Z Z Z) (AB Z Z ?_))))))));refine AB Z Z (AD (AC (AE (ek Z Z (AB Z Z (AB Z Z (AD (A2 ?_))))))));exact ⟨_,[10],_,A0 Z,Z,Z,Z,Z⟩
theorem cC(a:Nat->List Nat)(v:Nat):∃y,(Rh a v y/\Rh a y v)/\∀z,Rh a v z/\Rh a z v->y<=z:=oZ (λu=>Rh a v u/\Rh a u v) v v ⟨.refl v,.refl v⟩ (Γ _)
noncomputable def iP(suc:Nat->List Nat)(v:Nat):Nat:=Classical.choose (cC suc v)
theorem Gw(a:Nat->List Nat)(v:Nat):(Rh a v (iP a v)/\Rh a (iP a v) v)/\∀z,Rh a v z/\Rh a z v->iP a v<=z:=Classical.choose_spec (cC a v)
theorem XJ{a:Nat->List Nat}{j:Nat}:iP a i=iP a j↔Rh a i j/\Rh a j i:=by
 obtain ⟨c,g⟩:=Gw a i;obtain ⟨b,f⟩:=Gw a j
 constructor
 .intro e;rw[<-e] at b;exact ⟨c.1.trans b.2,b.1.trans c.2⟩
 .intro h;exact Nat.le_antisymm (g _ ⟨h.1.trans b.1,b.2.trans h.2⟩) (f _ ⟨h.2.trans c.1,c.2.trans h.1⟩)
theorem bf(n:Nat)(a:Nat->List Nat):∃l cnt,iL n a l cnt:=by
 let b:=(List.range n).filter λv=>decide (iP a v=v)
 have o:b.Nodup:=List.nodup_range.filter _;have g:∀v,iP a v<=v:=λv=>(Gw a v).2 v ⟨.refl v,.refl v⟩;have h:∀v,iP a (iP a v)=iP a v:=λv=>XJ.2 ⟨(Gw a v).1.2,(Gw a v).1.1⟩;have k:∀v,v<n->iP a v∈b:=λv f=>gk.2 ⟨Ψ.2 (Nat.lt_of_le_of_lt (g v) f),gi (h v)⟩;refine ⟨λv=>b.idxOf (iP a v),b.length,⟨λv f=>kZ (k v f),λi j r t=>?_,λc s=>?_,?_⟩⟩
 .rw[<-XJ]
  constructor
  .intro e;have x:=List.getElem_idxOf (kZ (k i r))
   grind
  grind
 .obtain ⟨w,u⟩:=gk.1 (ϑ s)
  grind
 grind
theorem fF(g:List (List Nat))(a:GT g):CN g.length (fm g) (kO g) (iy g):=by
 obtain ⟨b,cnt,h⟩:=bf g.length (fm g);exact (SO a.gb (W6 a h)).1
end Go.Proofs.YteifpcnphnhaoaaGreat
namespace Go.Proofs.YteifpcnphnhaoaaGreat
open Go.RowKit Go.Shelf
variable{g:List (List Nat)}{x:List Nat}{a:gB}{c:List D}{M:MF}{i:Nat}{f:List AU}{E:List (AJ×Nat)}{h:D}{j k o s:Nat}{t u:Int}{w:List Int}{y z:Nat}{N:MF}{A:Nat}
set_option maxRecDepth 100000
def Kn(g:List (List Nat))(i j:Nat):Prop:=Rh (fm g) i j/\Rh (fm g) j i
theorem Qd(g:List (List Nat))(i:Nat):Kn g i i:=⟨.refl i,.refl i⟩
theorem Z0(h:Kn g i s):Kn g s i:=⟨h.2,h.1⟩
theorem O8(h:Kn g i s)(a:Kn g s A):Kn g i A:=⟨h.1.trans a.1,a.2.trans h.2⟩
noncomputable def gz(g:List (List Nat))(i:Nat):List Nat:=(List.range g.length).filter λj=>dec (Kn g i j)
noncomputable def jK(g:List (List Nat)):List Nat:=(List.range g.length).filter λi=>dec (∀j,j<i->¬Kn g i j)
noncomputable def gL(g:List (List Nat)):List (List Nat):=iE ((jK g).map (gz g))
theorem Uk:s∈gz g i↔s<g.length/\Kn g i s:=by
 unfold gz;rw[gk,Ψ,FV]
theorem Ox:i∈jK g↔i<g.length/\∀j,j<i->¬Kn g i j:=by
 unfold jK;rw[gk,Ψ,FV]
theorem mo(h:Kn g i s):gz g i=gz g s:=by grind[gz,FV,O8,Z0]
theorem Uj(g:List (List Nat))(i:Nat):(gz g i).Pairwise (· < ·):=List.Pairwise.sublist jM List.pairwise_lt_range
theorem UV(g:List (List Nat)):(jK g).Pairwise (· < ·):=List.Pairwise.sublist jM List.pairwise_lt_range
theorem SU(h:i∈jK g):gu (gz g i)=(i:Int):=by
 obtain ⟨k,j⟩:=Ox.1 h;have b:i∈gz g i:=Uk.2 ⟨k,Qd g i⟩;have c:=Uj g i;unfold gu
 cases hc:gz g i with
 | nil=>rw[hc] at b;cases b
 | cons a t=>
  rw[hc] at b c;show ((a:Nat):Int)=_;have f:a∈gz g i:=by rw[hc];exact iV
  rcases Υ.1 b with e | e
  .rw[e]
  .have:=List.rel_of_pairwise_cons c e;exact absurd (Uk.1 f).2 (j a this)
theorem mH(i:Nat)(a:i<g.length):∃k,k∈jK g/\Kn g i k:=by
 induction i using Nat.strongRecOn with
 | ind i b=>
  by_cases h:∀j,j<i->¬Kn g i j
  .exact ⟨i,Ox.2 ⟨a,h⟩,Qd g i⟩
  grind[O8]
theorem Ta(c:GT g){v:Nat}(b:v<g.length):GP (kO g) g.length (kO g v)=gz g v:=by
 have f:=fF g c;unfold GP gz
 exact jy λw a=>by
  rw[kJ,decide_eq_true_iff,FV];rw[eq_comm];exact f.scc v w b (Ψ.1 a)
theorem Kr{l:List (List Nat)}:x∈iE l↔x∈l/\2<=x.length:=by
 unfold iE Hx;rw[gk];simp
theorem Ug(b:GT g):x∈gh g↔∃i,i∈jK g/\x=gz g i:=by
 have f:=fF g b;unfold gh eC;rw[Θ]
 constructor
 .rintro ⟨c,j,rfl⟩;obtain ⟨v,k,rfl⟩:=f.use c (Ψ.1 j)
  grind[mH,Ta,mo]
 .rintro ⟨i,h,rfl⟩;have a:=(Ox.1 h).1;exact ⟨kO g i,Ψ.2 (f.lt i a),Ta b a⟩
theorem PP(f:GT g):(gh g).Nodup:=by
 have h:=fF g f;unfold gh eC;rw[List.Nodup,ig];refine nf (R:=λa b=>a<b) (λ{a b} j k i e=>?_) List.pairwise_lt_range;obtain ⟨v,c,rfl⟩:=h.use a (Ψ.1 j);have l:v∈GP (kO g) g.length (kO g v):=by unfold GP;rw[gk];exact ⟨Ψ.2 c,by simp⟩
 grind[GP]
theorem Uo(a:GT g):x∈gL g↔x∈iE (gh g):=by grind[gL,Kr,Ug]
theorem My(g:List (List Nat)):(gL g).Pairwise λa b=>gu a<gu b:=by grind[gL,iE,nf,UV,SU]
theorem fM{y:List Nat}(b:x∈gL g)(a:y∈gL g)(h:gu x=gu y):x=y:=by
 unfold gL at b a;obtain ⟨i,f,rfl⟩:=Θ.1 (Kr.1 b).1;obtain ⟨j,c,rfl⟩:=Θ.1 (Kr.1 a).1;rw[SU f,SU c] at h;rw[Int.ofNat_inj.1 h]
theorem Up(f:GT g)(c:List (List Nat))(i:c.Perm (iE (gh g)))(o:c.Pairwise λa b=>¬gu b-gu a<0):c=gL g:=by
 have j:c.Nodup:=i.nodup_iff.2 (List.Nodup.sublist jM (PP f));have k:∀x,x∈c↔x∈gL g:=λx=>by rw[i.mem_iff,Uo f]
 refine DP (R:=λa b=>gu a<gu b) (λx h=>by omega) (λx y z h t=>by omega) ?_ (My g) k;refine nf (λ{a b} s r l=>?_) (List.Pairwise.and o j)
 grind[fM]
theorem my:Go.Sort.SWO (ltOf λa b:List Nat=>gu a-gu b):=by
 refine ⟨λx=>?_,λx y z h c=>?_,λx y z h c=>?_⟩
 all_goals (grind[ltOf])
theorem AP.fnArgA{P:Program}{f g:FuncId}{x:AV}{H:Hp}{R:AV->Hp->Prop}(h:AP P f [x,.d (.fn g [] [])] H R):AP P f [x,.d (.raw (.func (.func g) #[] #[]))] H R:=
 ⟨h.1,λF r vs y w k u t o=>h.2 F r vs y w k u t λi a v j l=>by
  rcases i with _ | _ | i
  .exact o 0 _ v j l
  .have e:a= .d (.fn g [] []):=by simpa using j.symm
   subst e;have:=o 1 _ v Z l
   cases this with
   | d s=>
    cases s with
    | raw _=>exact .d (.fn (us:=[]) (vs:=[]) Z Z (λi c v b=>by simp at b) λi c v b=>by simp at b)
  .simp at j⟩
theorem HU.l{N:MF}(h:HU M z w):HU (gO M N) z w:=by
 obtain ⟨m,c,a⟩:=h;exact ⟨m,Id c,Id a⟩
theorem HU.r{l:List Int}(j:∀i m a,M i=some m->N i=some a->False)(h:HU N z l):HU (gO M N) z l:=by
 obtain ⟨m,g,f⟩:=h
 have c:∀{i a},N i=some a->M i=none:=λ{i a} h=>by
  cases e:M i with
  | none=>rfl
  | some x=>exact (j i _ _ e h).elim
 exact ⟨m,Ko (c g) g,Ko (c f) f⟩
theorem HU.put{g:Nat}{o:Al}(h:HU N z w)(f:N g=none):HU (B5 N g o) z w:=by
 obtain ⟨m,c,a⟩:=h;exact ⟨m,by rw[ID (λe=>by rw[e,f] at c;cases c)];exact c,by rw[ID (λe=>by rw[e,f] at a;cases a)];exact a⟩
abbrev v8:FuncId:=79
def tY(L G:List Int)(id:Int):Bool:=decide (id∈L) && !decide (id∈G)
theorem mx{j i g h:Nat}{L G:List Int}(b:N j=some (.cells 124 [Pa g]))(a:N i=some (.cells 124 [Pa h]))(k:HU N g L)(l:HU N h G)(id:Int):
  AP prog v8 [.d (AF id),.d (pD j 0),.d (pD i 0)] [(41,[.multi N])] λr o=>r= .d (Ah (tY L G id))/\o=[(41,[.multi N])]:=by
 refine Av func79 Z Z ntmps79 Z Z Z λF s=>(AC (AE ?_));refine AB Z Z (AD (AC (AE (J (EI (f:=41) Z Z b Z Te Z) (ek Z Z (V (VT (EK k id) Z [41] ⟨Z,trivial⟩ Z Z Z Z Z Z Z Z Z) (ek Z Z (CU 8 Z (λc=>?_) (λc=>?_)))))))));refine AQ Z Z Z (J (EI (f:=41) Z Z a Z Te Z) (AQ Z Z Z (ek Z Z (AQ Z Z Z (V (VT (EK l id) Z [41] ⟨Z,trivial⟩ Z Z Z Z Z Z Z Z Z) (AQ Z Z Z (J (KH Z Z) (J (BZ Z Z Z Z) ?_))))))))
 rotate_left
 refine AI Z Z Z Z (AI Z Z Z Z (AI Z Z Z Z (AI Z Z Z Z (J (Be Z Z Z Z) ?_))))
 all_goals
  refine AB Z Z (AD (A2 ?_));exact ⟨_,[41],_,A0 Z,Z,Z,by {unfold tY;simp[c]},Z⟩
theorem qd(h:E.length<=1000):GT (iu f E):=by
 have a:∀l∈iu f E,l.length<=1000/\∀x∈l,x<E.length:=λl a=>by
  obtain ⟨e,_,rfl⟩:=Θ.1 a;exact ⟨gY (Wq _ _ _ _) h,ou⟩
 refine ⟨⟨by rw[Ho];omega,λl b=>by have:=(a l b).1;omega,λl b x g=>by rw[Ho];exact (a l b).2 x g⟩,?_⟩
 have c:∀i,i<=(iu f E).length->Jl (iu f E) i<=i*1000:=λi k=>by
  induction i with
  | zero=>exact ζ _
  | succ i j=>
   grind[Ff,Jl,iM]
 grind[Ho]
noncomputable def iw(p:gB):List (AJ×Nat):=((BN p.it).filter λi=>tY (gF p) (DV p) i.id).map λi=>(i,0)
theorem eS(p:gB):(iw p).map Prod.fst=(BN p.it).filter λi=>tY (gF p) (DV p) i.id:=by unfold iw;rw[gw];exact List.map_id _
noncomputable def jq(rs:List AU)(E:List (AJ×Nat)):List (List Int):=(gL (iu rs E)).map (BF E)
theorem mz(h:x∈gL g):2<=x.length/\x.length<=g.length/\∀k∈x,k<g.length:=by
 obtain ⟨b,a⟩:=Kr.1 h
 grind[gz]
theorem fL(g:List (List Nat)):(gL g).length<=g.length:=by grind[gL,dU,jK]
theorem YG(a:GT g)(h:x∈gh g):x.length<=g.length/\∀k∈x,k<g.length:=by grind[Ug,gz]
theorem mf(a:GT g):iy g<=g.length:=by
 obtain ⟨b,cnt,h⟩:=bf g.length (fm g);have:=(SO a.gb (W6 a h)).2.1;have:=h.le;omega
theorem Uh:(gh g).length=iy g:=by unfold gh;rw[VG]
theorem th{l:List Nat}(h:0<l.length)(a:∀k∈l,k<y):l.getD 0 0<y:=by simp_all
theorem fK(a:GT g):(gL g).length=(iE (gh g)).length:=by
 have c:(gL g).Nodup:=by
  grind[List.Pairwise.imp,My]
 have b:(iE (gh g)).Nodup:=List.Nodup.sublist jM (PP a);exact ((List.perm_ext_iff_of_nodup c b).2 λx=>Uo a).length_eq
theorem QS{b:List Ad}{a:List AJ}:∀(f:Nat) (c:Nat->Bool) (x:Int),x∈NM b a f c->∃i,i<a.length/\c i=true/\x=(a.getD i Ag).id
 | 0,_,_,h=>by cases h
 | f+1,c,x,h=>by
  cases hn:Ic b a c with
  | none=>rw[JN hn] at h;cases h
  | some i=>
   rw[JM hn] at h;obtain ⟨r,k,_⟩:=O7 hn;rcases Υ.1 h with e | h
   .exact ⟨i,r,k,e⟩
   .obtain ⟨j,o,g,l⟩:=QS f _ x h;refine ⟨j,o,?_,l⟩;unfold BK at g
    by_cases e:j=i
    .rw[e];exact k
    .simpa [e] using g
theorem OP{b:List Ad}{a:List AJ}(g:(a.map AJ.id).Nodup):∀(f:Nat) (k:Nat->Bool),(NM b a f k).Nodup
 | 0,_=>List.nodup_nil
 | f+1,k=>by
  cases hn:Ic b a k with
  | none=>rw[JN hn];exact List.nodup_nil
  | some i=>
   rw[JM hn];obtain ⟨t,u,_⟩:=O7 hn;refine kL.2 ⟨λh=>?_,OP g f _⟩;obtain ⟨j,s,r,o⟩:=QS f _ _ h;have l:j≠i:=λe=>by subst e;unfold BK at r;simp at r
   rw[Φ,Φ,ω t,ω s] at o;have e:(a.map AJ.id)[i]'(by simpa using t)=(a.map AJ.id)[j]'(by simpa using s):=by rw[iC,iC];exact o
   rw[List.Nodup,ia] at g;rcases Nat.lt_trichotomy i j with c | c | c
   .exact g i j _ _ c e
   .exact l c.symm
   .exact g j i _ _ c e.symm
theorem UR(b:BB a=0):(DV a).Nodup:=OP (GY b) _ _
theorem Zm(b:GJ a):(DV a).length<=30:=by
 have h:=TG (ros:=DT a) (its:=gC a) (gC a).length λ_=>true;have c:=Dp a;have:=b.i;unfold DV;omega
theorem Zy(p:gB)(B:GJ p)(v:BB p=0):AL prog 30 [.d (Bf p)] (.tup [Xf (jq (gJ p) (iw p)),AF 0]):=by
 have hi30:=B.i;have hlk:=Jw p B v;have hgk:=UQ p B v;have hO:gC p=BN p.it:=ς v;have hll:=MJ v;have hgn:(DV p).Nodup:=UR v;have hgl:(DV p).length<=30:=Zm B;refine Av func30 Z Z ntmps30 Z Z Z λF Y=>?_;refine AC (AE (V (Bh 1 Z Z Z Z Z Z Z) (AB Z Z (AB Z Z (AD (AC (AE (J (Ay Z Z Bp Z Z Z) ?_))))))));refine J (Au (hlk) Z Z) (ek Z Z (J (De Z Z Z) (J (De Z Z Z) (AB Z Z (AB Z Z (AD (AC (AC ?_))))))));refine AE (ek Z Z (J (C6 Z Z Z) (AD (Cr Z (gp (by decide)) (AW (AC (AE (J (Ay Z Z Bp Z Z Z) ?_))))))));refine J (Au (hgk) Z Z) (ek Z Z (J (De Z Z Z) (J (De Z Z Z) (AB Z Z (AB Z Z (AD (AC (AC ?_))))))));refine AE (ek Z Z (J (C6 Z Z Z) (AD (Cr Z (gp (by decide)) (AW (AC (AE (ek Z Z ?_))))))));refine Ca (VV (Gp (gF p) (Ij v) (by omega)) Z [41] ⟨Z,trivial⟩ Z Z Z Z (λr z ⟨b,N,i,h,_⟩=>by subst i h;exact ⟨Z,Z,Z⟩) Z) Z ?_;rintro _ ⟨r,z,⟨bl,N1,i,h,hWl⟩,rfl⟩;subst i h;refine ek Z Z ?_;refine Ca (VV ((Gp (DV p) hgn (by omega)).byX [(41,42)] Z) Z [42] ⟨Z,trivial⟩ Z Z Z Z (λr z ⟨r0,H0,⟨b,N,i,h,_⟩,e3,e4⟩=>by subst e3 e4 i h;exact ⟨Z,Z,Z⟩) Z) Z ?_;rintro _ ⟨r,z,⟨r0,H0,⟨bg,N2,i,h,hWg⟩,e3,e4⟩,rfl⟩;subst e3 e4 i h;refine V (Bx 7 ae Z Z Z Z) (V (Bx 8 ae Z Z Z Z) (V (B3 Z Z Z Z Z Z Z bF) (V (B3 Z Z Z Z Z Z Z bF) (AD (AC (nR 42 41 Z Z Z Z Z Z Z Z Z λhdj=>?_))))));have Q:=hWl.l (N:=N2);have U:=HU.r hdj hWg;refine fo (ds:=[Pa bl]) 7 7 41 Y Z Z Z Z Z Z Z Z Z Z Z (λ_=>rfl) λb7 L=>?_;have P:=Q.put (o:= .cells 124 [Pa bl]) L;have S:=U.put (o:= .cells 124 [Pa bl]) L;refine fo (ds:=[Pa bg]) 8 8 41 Y Z Z Z Z Z Z Z Z Z Z Z (λ_=>rfl) λb8 s=>?_;have O:=P.put (o:= .cells 124 [Pa bg]) s;have R:=S.put (o:= .cells 124 [Pa bg]) s;have hq7:=GG (B5 (gO N1 N2) b7 (.cells 124 [Pa bl])) b8 (.cells 124 [Pa bg]);refine AE (J (Ay Z Z Bp Z Z Z) (J (YS (ds:=[]) (es:=[pD b7 0,pD b8 0]) Z Z Z Z Z) ?_));refine Ca (VV (MV p v B v8 [pD b7 0,pD b8 0] _ (tY (gF p) (DV p)) (mx (by rw[ID (λe=>by rw[<-e,GG] at s;cases s)];exact GG _ _ _) hq7 O R)) Z [41,40] ⟨Z,Z,trivial⟩ Z Z Z Z (λr z ⟨E,M,i,h,_⟩=>by subst i h;exact ⟨Z,Z,Z⟩) Z) Z ?_;rintro _ ⟨r,z,⟨E,M,i,h,hR,u⟩,rfl⟩;subst i h;refine AB Z Z (AD (AC ?_));have W:E.map Prod.fst=(iw p).map Prod.fst:=by rw[u,hO,eS]
 have K:=Zn (rs:=gJ p) (E:=E) (E':=iw p) W;have hn30:E.length<=30:=by have C:(E.map Prod.fst).length<=(BN p.it).length:=(by rw[u,hO];exact iI _ _);rw[χ,aW] at C;omega
 have haf:∀e∈E,e.1.af.length<=100000:=λe he=>by have C:e.1∈E.map Prod.fst:=jg he;rw[u,hO] at C;have:=(B.x _ ((aQ p.it).mem_iff.1 (gk.1 C).1)).2.2;omega
 have f:GT (iu (gJ p) E):=qd (by omega)
 obtain ⟨g,t⟩:∃g,iu (gJ p) E=g:=⟨_,Z⟩
 have hgl2:g.length=E.length:=by rw[<-t,Ho]
 have G:=mF E hR (by omega) haf;rw[t] at f G;refine AE (ek Z Z (V (FH G Z [40] ⟨Z,trivial⟩ Z Z Z Z Z Z Z Z Z) ?_));refine Ca (VV (SP g f) Z [10] ⟨Z,trivial⟩ Z Z Z Z (λr z ⟨i,h⟩=>by subst i h;exact ⟨Z,Z,Z⟩) Z) Z ?_;rintro _ ⟨r,z,⟨i,h⟩,rfl⟩;subst i h;refine ek Z Z (J (DC Z Z Z) (J (DC Z Z Z) (AB Z Z (AB Z Z (AD ?_)))));refine AC (AC (AE (ek Z Z (J (C6 Z Z Z) (AD (Cr Z (gp (by decide)) (AW (AC ?_))))))));have hcl:iy g=(gh g).length:=Uh.symm;have hca:∀c∈gh g,c.length<=100000:=λc hc=>by have:=(YG f hc).1;omega
 have hcn30:(gh g).length<=30:=by rw[Uh];have:=mf f;omega
 rw[hcl]
 obtain ⟨D,hjk⟩:∃D,(List.replicate ((gh g).length-(iE (gh g)).length) none).map eO=D:=⟨_,Z⟩
 have H:=(qt (gh g) (by omega) hca).fnArgA;rw[hjk] at H;have j:∀x∈iE (gh g),0<x.length/\x.getD 0 0<=100000:=λx A=>by have C:=Kr.1 A;have h2:=(YG f C.1).2;have h3:=th (by omega) h2;exact ⟨by omega,by omega⟩
 refine AE (ek Z Z (V (FH H Z [10] ⟨Z,trivial⟩ Z Z Z Z Z Z Z Z Z) (AB Z Z (AD (AC (AE ?_))))));refine ek Z Z (V (bO qG func84 Z Z (λ_=>rfl) (λa b=>gu a-gu b) my (iE (gh g)) (gL g) D (by have:=dU (gh g);omega) (λx A y hy=>mw x y (j x A).1 (j y hy).1 (j x A).2 (j y hy).2) (λys g1 g2=>Up f ys g1 g2) Z Z Z MT Z Z Z Z Z) (AD (AC (AE (AB Z Z (AD (AC (AC ?_))))))));have I:(iE (gh g)).length=(gL g).length:=(fK f).symm;rw[I];have hc30:(gL g).length<=30:=by have:=fL g;omega
 refine AE (ek Z Z (J (RL Z T1 Z) (ek Z Z (AD (AZ (NF 11 11 OL Z Z Z Z (BM (α:=Nat×List (List Int)) (λq=>⟨64,[(9,(.d (.sl none (E.map Ct)))),(11,(.own 11 0 q.2.length)),(50,(.own 10 0 (gL g).length)),(51,(.d (AF ((gL g).length:Int)))),(52,(.d (AF (q.1:Int))))],[(11,[.rowD 28 1 (q.2.map Gl)]),(10,[.rowD 28 1 ((gL g).map gD++D)])]⟩) (λq=>q.1<=(gL g).length/\q.2=((gL g).take q.1).map (BF E)) (λq=>(gL g).length-q.1) ((0,[])) (⟨ζ _,Z⟩) (AX Y [11,10] Z Z ⟨Z,Z,Z,Z,Z,trivial⟩) ?_)))))));rintro ⟨k,T⟩ ⟨hk,X⟩;dsimp only at hk X⊢;refine AC (AE (J (Az Z Z Z) (AD (AC (A6 Z (λw=>?_) (λw=>?_))))))
 .refine AW (AC (AZ (AC ?_)));have l:k<(gL g).length:=BQ w;obtain ⟨hx2,hxl,hxm⟩:=mz (ϑ l);have hTl:T.length<=30:=by rw[X,χ,ϱ];omega
  refine AE (J (DB (k) Z Z (Z) (l) Z T1 DD Z) (J (EC Z Z ((show ((gL g).map gD++D)[k]? =some (gD (gL g)[k]) from by rw[oh (by rw[χ];exact l)];exact A1 l)) Z BH Z) ?_));refine AB Z Z (AD (AE (ek Z Z (ek Z Z (ek Z Z ?_)))));refine J (Au (ta E (gL g)[k] (λx A=>by have:=hxm x A;omega) (by omega)) Z Z) (V (C1 30 OL Z Z Z Z Z Z Z Z) (V (Ev (T) ([BF E (gL g)[k]]) Z Z Z Z Z Z Z Z OL (by simp only[υ];omega) Z Z Z Z) (AB Z Z (AD (AE (J (Aj Z Z (AN (k+1) (by omega)) Z) (ek Z Z (AD ?_))))))));exact ⟨(k+1,T++ [BF E (gL g)[k]]),⟨l,by show _=((gL g).take (k+1)).map _;rw[ψ l,Ω,X];rfl⟩,by show (gL g).length-(k+1)<(gL g).length-k;omega,AX Y [11,10] Z (Z) ⟨Z,Z,Z,Z,Z,trivial⟩⟩
 .refine Aw (AC ?_);have hke:k=(gL g).length:=by have:=w;omega
  refine KL (emb:=Gl) 11 11 T Z Z Z Z Z Z Z ?_;rw[show T=jq (gJ p) (iw p) by rw[X,hke,gy,<-t];unfold jq;rw[K.1,K.2.1]];refine AE (ek Z Z (AB Z Z (AB Z Z (AD (A2 ?_)))));exact ⟨_,[],[],A0 Z,Z,Z,Z,Z⟩
abbrev Ra(p:gB):List D:=[.sl none (p.ro.map Bj),.sl none (p.it.map Af)]
theorem rM(s:M o=some (.cells 39 (Ra a)))(l:M k=some (.cells 32 c))(A:c.length=5)(i:M j=some (.cells 33 [AF u]))(w:j≠k)(y:h.one=true)(z:AL prog 39 [.d (Bf a)] (.tup [h,AF t])):
  AP prog 41 [.d (pD o 0),.d (pD k 0),.d (pD j 0)] [(41,[.multi M])] λr B=>r= .tup []/\B=[(41,[.multi (B5 (B5 M k (.cells 32 (c.set 0 h))) j (.cells 33 [AF t]))])]:=by
 refine Av func41 Z Z ntmps41 Z Z Z λF C=>(AE ?_);refine J (D3 (f:=41) (n:=2) Z Z s Bp Z Z (λb g=>by rcases Υ.1 g with rfl | g;rfl;rcases Υ.1 g with rfl | g;rfl;cases g) Z) (J (Au (z) Z Z) (ek Z Z (J (De Z Z Z) (J (De Z Z Z) (J (Cd Z jX Z Z Z) (V (QF (f:=41) (off:=0) Z Z y Z l (by omega) Z DD) (V (QF (f:=41) (off:=0) Z Z Z Z (by rw[ID w];exact i) (by simp) Z bB) (AD ?_))))))));exact ⟨_,[41],_,A0 Z,Z,Z,Z,Z⟩
theorem rK(s:M o=some (.cells 39 (Ra a)))(l:M k=some (.cells 32 c))(A:c.length=5)(i:M j=some (.cells 33 [AF u]))(w:j≠k)(y:h.one=true)(z:AL prog 43 [.d (Bf a)] (.tup [h,AF t])):
  AP prog 42 [.d (pD o 0),.d (pD k 0),.d (pD j 0)] [(41,[.multi M])] λr B=>r= .tup []/\B=[(41,[.multi (B5 (B5 M k (.cells 32 (c.set 1 h))) j (.cells 33 [AF t]))])]:=by
 refine Av func42 Z Z ntmps42 Z Z Z λF C=>(AE ?_);refine J (D3 (f:=41) (n:=2) Z Z s Bp Z Z (λb g=>by rcases Υ.1 g with rfl | g;rfl;rcases Υ.1 g with rfl | g;rfl;cases g) Z) (J (Au (z) Z Z) (ek Z Z (J (De Z Z Z) (J (De Z Z Z) (J (Cd Z kG Z Z Z) (V (QF (f:=41) (off:=1) Z Z y Z l (by omega) Z DD) (V (QF (f:=41) (off:=0) Z Z Z Z (by rw[ID w];exact i) (by simp) Z bB) (AD ?_))))))));exact ⟨_,[41],_,A0 Z,Z,Z,Z,Z⟩
theorem rJ{z:D}(w:M o=some (.cells 39 (Ra a)))(g:M k=some (.cells 32 c))(C:c.length=5)(l:c[0]? =some z)(s:M j=some (.cells 33 [AF u]))(y:j≠k)(A:h.one=true)(B:AL prog 23 [.d (Bf a),.d z] (.tup [h,AF t])):
  AP prog 44 [.d (pD o 0),.d (pD k 0),.d (pD j 0)] [(41,[.multi M])] λr E=>r= .tup []/\E=[(41,[.multi (B5 (B5 M k (.cells 32 (c.set 2 h))) j (.cells 33 [AF t]))])]:=by
 refine Av func44 Z Z ntmps44 Z Z Z λF G=>(AE (J (D3 (f:=41) (n:=2) Z Z w Bp Z Z (λb i=>by rcases Υ.1 i with rfl | i;rfl;rcases Υ.1 i with rfl | i;rfl;cases i) Z) (J (Cd Z jX Z Z Z) ?_)));refine J (EI (f:=41) Z Z g l BH Z) (J (Au (B) Z Z) (ek Z Z (J (De Z Z Z) (J (De Z Z Z) (J (Cd Z eG Z Z Z) (V (QF (f:=41) (off:=2) Z Z A Z g (by omega) Z sQ) (V (QF (f:=41) (off:=0) Z Z Z Z (by rw[ID y];exact s) (by simp) Z bB) (AD ?_))))))));exact ⟨_,[41],_,A0 Z,Z,Z,Z,Z⟩
theorem rI(s:M o=some (.cells 39 (Ra a)))(l:M k=some (.cells 32 c))(A:c.length=5)(i:M j=some (.cells 33 [AF u]))(w:j≠k)(y:h.one=true)(z:AL prog 30 [.d (Bf a)] (.tup [h,AF t])):
  AP prog 45 [.d (pD o 0),.d (pD k 0),.d (pD j 0)] [(41,[.multi M])] λr B=>r= .tup []/\B=[(41,[.multi (B5 (B5 M k (.cells 32 (c.set 3 h))) j (.cells 33 [AF t]))])]:=by
 refine Av func45 Z Z ntmps45 Z Z Z λF C=>(AE ?_);refine J (D3 (f:=41) (n:=2) Z Z s Bp Z Z (λb g=>by rcases Υ.1 g with rfl | g;rfl;rcases Υ.1 g with rfl | g;rfl;cases g) Z) (J (Au (z) Z Z) (ek Z Z (J (De Z Z Z) (J (De Z Z Z) (J (Cd Z kF Z Z Z) (V (QF (f:=41) (off:=3) Z Z y Z l (by omega) Z sQ) (V (QF (f:=41) (off:=0) Z Z Z Z (by rw[ID w];exact i) (by simp) Z bB) (AD ?_))))))));exact ⟨_,[41],_,A0 Z,Z,Z,Z,Z⟩
theorem rH(s:M o=some (.cells 39 (Ra a)))(l:M k=some (.cells 32 c))(A:c.length=5)(i:M j=some (.cells 33 [AF u]))(w:j≠k)(y:h.one=true)(z:AL prog 31 [.d (Bf a)] (.tup [h,AF t])):
  AP prog 46 [.d (pD o 0),.d (pD k 0),.d (pD j 0)] [(41,[.multi M])] λr B=>r= .tup []/\B=[(41,[.multi (B5 (B5 M k (.cells 32 (c.set 4 h))) j (.cells 33 [AF t]))])]:=by
 refine Av func46 Z Z ntmps46 Z Z Z λF C=>(AE ?_);refine J (D3 (f:=41) (n:=2) Z Z s Bp Z Z (λb g=>by rcases Υ.1 g with rfl | g;rfl;rcases Υ.1 g with rfl | g;rfl;cases g) Z) (J (Au (z) Z Z) (ek Z Z (J (De Z Z Z) (J (De Z Z Z) (J (Cd Z iv Z Z Z) (V (QF (f:=41) (off:=4) Z Z y Z l (by omega) Z uZ) (V (QF (f:=41) (off:=0) Z Z Z Z (by rw[ID w];exact i) (by simp) Z bB) (AD ?_))))))));exact ⟨_,[41],_,A0 Z,Z,Z,Z,Z⟩
abbrev DA:D:= .sl (some true) []
def uO:List FuncId:=[41,42,44,45,46]
def vm(b1 b4 b5:Nat)(g:FuncId):D:= .fn g [] [pD b1 0,pD b4 0,pD b5 0]
noncomputable def jp(p:gB):List D:=[Gl (gF p),Gl (DV p),Xf (ga (gJ p) (DY p (gF p))),Xf (jq (gJ p) (iw p)),.sl none ((jr p).map tv)]
noncomputable def jU(p:gB)(k:Nat):List D:=(jp p).take k++List.replicate (5-k) DA
theorem vN(i:GJ a)(h:BB a=0)(v:A<uO.length)(f:M o=some (.cells 39 (Ra a)))(c:M k=some (.cells 32 (jU a A)))(b:M j=some (.cells 33 [AF 0]))(g:j≠k):
  AP prog uO[A] [.d (pD o 0),.d (pD k 0),.d (pD j 0)] [(41,[.multi M])] λr w=>r= .tup []/\w=[(41,[.multi (B5 (B5 M k (.cells 32 (jU a (A+1)))) j (.cells 33 [AF 0]))])]:=by
 have s:∀x∈gF a,x∈a.it.map AJ.id:=λx t=>Z6 h t;have l:=Ij h;have u:=MJ h;have y:=i.i
 match A,v with
 | 0,_=>exact rM f c Z b g Z (Jw a i h)
 | 1,_=>exact rK f c Z b g Z (UQ a i h)
 | 2,_=>exact rJ f c Z Z b g Z (fA a (gF a) i (by omega) (SV h l s) h l)
 | 3,_=>exact rI f c Z b g Z (Zy a i h)
 | 4,_=>exact rH f c Z b g Z (aD a i h)
theorem We(p:gB)(I:GJ p)(N:BB p=0):AL prog 12 [.d (Bf p)] (.tup [.agg (jp p),AF 0]):=by
 refine Av func12 Z Z ntmps12 Z Z Z λF y=>(AC (AE ?_));refine V (Bh 1 Z Z Z Z Z Z Z) (V (Bx 2 oi Z Z Z Z) (AB Z Z (AD (AC (AE (V (Bx 4 oi Z Z Z Z) (AD (AC ?_))))))));refine AE (V (Bx 5 uU Z Z Z Z) (AD (AC (AC (IC 41 Z Z Z (fo (ds:=Ra p) 1 1 41 y Z Z Z Z Z Z Z Z Z Z Z (λ_=>rfl) λg L=>(fo (ds:=[DA,DA,DA,DA,DA]) 4 4 41 y Z Z Z Z Z Z Z Z Z Z Z (λ_=>rfl) λb w=>(fo (ds:=[AF 0]) 5 5 41 y Z Z Z Z Z Z Z Z Z Z Z (λ_=>rfl) λa h=>?_))))))));have o:b≠g:=λe=>by rw[e,GG] at w;cases w
 have l:a≠b:=λe=>by rw[e,GG] at h;cases h
 have z:a≠g:=λe=>by rw[e,ID (Ne.symm o),GG] at h;cases h
 refine AE (J (YS (ds:=[]) (es:=[pD g 0,pD b 0,pD a 0]) Z Z Z Z Z) (J (YS (ds:=[]) (es:=[pD g 0,pD b 0,pD a 0]) Z Z Z Z Z) ?_));refine J (YS (ds:=[]) (es:=[pD g 0,pD b 0,pD a 0]) Z Z Z Z Z) (J (YS (ds:=[]) (es:=[pD g 0,pD b 0,pD a 0]) Z Z Z Z Z) (J (YS (ds:=[]) (es:=[pD g 0,pD b 0,pD a 0]) Z Z Z Z Z) (V (C1 20 u5 Z Z Z Z Z Z Z Z) (J (RL Z underlying94 Z) (ek Z Z (AD (AZ (BM (α:=Nat×MF) (λq=>⟨27,[(2,(.ptr 2 0 0)),(4,(.d (pD b 0))),(5,(.d (pD a 0))),(13,(.own 20 0 5)),(14,(.d (AF 5))),(15,(.d (AF (q.1:Int))))],[(20,[.rowD 1 1 (uO.map (vm g b a))]),(2,[.blk 32 [.d DA,.d DA,.d DA,.d DA,.d DA]]),(41,[.multi q.2])]⟩) (λq=>q.1<=5/\q.2 g=some (.cells 39 (Ra p))/\q.2 b=some (.cells 32 (jU p q.1))/\q.2 a=some (.cells 33 [AF 0])) (λq=>5-q.1) ((0,_)) (⟨ζ _,by show B5 _ _ _ _=_;rw[ID (Ne.symm z),ID (Ne.symm o)];exact GG _ _ _,by show B5 _ _ _ _=_;rw[ID (Ne.symm l)];exact GG _ _ _,GG _ _ _⟩) (AX y [20,2,41] Z Z ⟨Z,Z,Z,Z,Z,Z,trivial⟩) ?_))))))));rintro ⟨k,M⟩ ⟨H,j,i,v⟩;dsimp only at H j i v⊢;refine AC (AE (J (Az Z Z Z) (AD (AC (A6 Z (λs=>?_) (λs=>?_))))))
 .refine AW (AC (AZ (AC ?_)));have t:k<5:=BQ s;have u:k<uO.length:=t;have C:B5 (B5 M b (.cells 32 (jU p (k+1)))) a (.cells 33 [AF 0]) g=some (.cells 39 (Ra p)):=by rw[ID (Ne.symm z),ID (Ne.symm o)];exact j
  have B:B5 (B5 M b (.cells 32 (jU p (k+1)))) a (.cells 33 [AF 0]) b=some (.cells 32 (jU p (k+1))):=by rw[ID (Ne.symm l)];exact GG _ _ _
  have x:B5 (B5 M b (.cells 32 (jU p (k+1)))) a (.cells 33 [AF 0]) a=some (.cells 33 [AF 0]):=GG _ _ _;refine AE (J (DB (k) Z Z (Z) (t) Z underlying94 vb Z) (J (EC Z Z (A1 u) Z vd Z) (AB Z Z (AD (AC (AE (ek Z Z ?_)))))));refine Ca (Yl (vN I N u j i v l) Z [41] ⟨Z,trivial⟩ Z Z Z Z (λr O ⟨G,E⟩=>by subst G E;exact ⟨Z,Z,Z⟩) Z) Z ?_;rintro _ ⟨r,O,⟨G,E⟩,rfl⟩;subst G E;refine AD (AC (AE ?_));refine J (EI (f:=41) Z Z x Z ut Z) (J (C6 Z Z Z) (AD (Cr Z (gp (by decide)) (AW (AE (J (Aj Z Z (AN (k+1) (by omega)) Z) (ek Z Z (AD ?_))))))));exact ⟨(k+1,_),⟨by show k+1<=5;omega,C,B,x⟩,by show 5-(k+1)<5-k;omega,AX y [20,2,41] Z (Z) ⟨Z,Z,Z,Z,Z,Z,trivial⟩⟩
 .refine Aw (AC ?_);have A:k=5:=by have:=s;omega
  subst A;refine AE (J (D3 (f:=41) (n:=5) Z Z i u9 Z Z (λc K=>by have D:c∈jp p:=K;unfold jp at D;simp only[Υ,List.not_mem_nil,or_false] at D;rcases D with rfl | rfl | rfl | rfl | rfl<;>rfl) Z) (V (B3 Z Z Z Z Z Z Z sP) (AB Z Z (AD (A2 ?_)))));exact ⟨_,[],_,A0 Z,Z,Z,Z,Z⟩
theorem Ui{C:Nat->Nat->Prop}(b:0<y)(h:∀i j,i<y->j<y->C i j):jY y C=[List.range y]:=by
 unfold jY
 have o:((List.range y).filter λk=>dec (∀j,j<k->¬C k j))=[0]:=by
  obtain ⟨m,rfl⟩:∃m,y=m+1:=⟨y-1,by omega⟩
  rw[List.range_succ_eq_map,jS,ς (YF λj a=>absurd a (Nat.not_lt_zero j)),List.filter_map]
  have l:(List.range m).filter ((λk=>dec (∀j,j<k->¬C k j))∘Nat.succ)=[]:=List.filter_eq_nil_iff.2 λk f=>by
   have c:=Ψ.1 f;show ¬dec (∀j,j<k+1->¬C (k+1) j)=true;rw[FV];exact λg=>g 0 (Nat.succ_pos k) (h _ _ (by omega) (by omega))
  rw[l];rfl
 rw[o,List.map_singleton,List.filter_eq_self.2 λj a=>YF (h 0 j b (Ψ.1 a))]
theorem fN(g:List (List Nat)):gL g=iE (jY g.length (Kn g)):=rfl
theorem mG:s∈fm (iu f E) i↔i<E.length/\s<E.length/\aR f (DK E i) (DK E s):=by grind[iu,jE,S2,fm]
theorem TQ{f:Nat->List Nat}{nx:Nat->Nat}(h:∀i,i<y->nx i∈f i){P:Nat->Nat}(w:∀i,i<y->P i<y)(o:∀m,m<y->nx (P m)=P ((m+1) % y))(c:∀i,i<y->∃m,m<y/\P m=i):∀i j,i<y->j<y->Rh f i j:=by
 have step:∀d m,m<y->Rh f (P m) (P ((m+d) % y)):=λd m r=>by
  induction d with
  | zero=>rw[ib,Nat.mod_eq_of_lt r];exact .refl _
  | succ d l=>
   have g:=Nat.mod_lt (m+d) (by omega:y>0);have k:=h _ (w _ g);rw[o _ g,Nat.mod_add_mod] at k;exact .step l k
 intro i j t s;obtain ⟨a,v,rfl⟩:=c i t;obtain ⟨b,u,rfl⟩:=c j s;have:=step (b+y-a) a v
 rwa [show a+(b+y-a)=b+y by omega,Nat.add_mod_right,Nat.mod_eq_of_lt u] at this
def dh:List AJ:=[Pn 1 [65] [66] 5,Pn 2 [66] [67] 5,Pn 3 [67] [65] 5,Pn 4 [65] [68] 4]
def kK:gB:=⟨R3,dh⟩
theorem WM:BB kK=0:=by decide
theorem vC:GJ kK:=⟨by decide,by decide,by decide⟩
theorem tU:DT kK=R3:=(bw WM (List.Perm.refl _) (by decide)).symm
theorem db:gC kK=dh:=by decide
theorem lv:gF kK=[1,2,3]:=by
 unfold gF Mw;rw[tU,db];exact jc (by kernel_rfl)
theorem tV:DV kK=[]:=by
 unfold DV;rw[tU,db];exact jc (by kernel_rfl)
def eK:List (AJ×Nat):=[(Pn 1 [65] [66] 5,0),(Pn 2 [66] [67] 5,0),(Pn 3 [67] [65] 5,0)]
theorem tT:DY kK [1,2,3]=eK:=by
 unfold DY;rw[<-show gC kK=BN kK.it from ς WM,db]
 rfl
theorem tS:iw kK=eK:=by
 unfold iw;rw[<-show gC kK=BN kK.it from ς WM,db,lv,tV]
 rfl
theorem tR:∀r∈gJ kK,CL r=0:=by decide
theorem qH(b:i<3)(a:s<3)(h:decide (∃r∈gJ kK,CB (DK eK i) r<0/\0<CB (DK eK s) r)=true):aR (gJ kK) (DK eK i) (DK eK s):=by grind[om,tR,CB]
theorem ol{a b:AJ}(h:aR f a b):Je f a b:=by grind[JS,aR,Je]
def uM:Nat->Nat
 | 0=>2
 | 1=>0
 | _=>1
theorem Xl(i:Nat)(a:i<3):uM i<3/\aR (gJ kK) (DK eK i) (DK eK (uM i)):=by
 match i,a with
 | 0,_=>exact ⟨by decide,qH (by decide) (by decide) (by decide)⟩
 | 1,_=>exact ⟨by decide,qH (by decide) (by decide) (by decide)⟩
 | 2,_=>exact ⟨by decide,qH (by decide) (by decide) (by decide)⟩
def oK:Nat->Nat
 | 0=>0
 | 1=>2
 | _=>1
theorem qL:jq (gJ kK) eK=[[1,2,3]]:=by
 have h:∀i j,i<3->j<3->Rh (fm (iu (gJ kK) eK)) i j:=TQ (nx:=uM) (P:=oK) (λi a=>mG.2 ⟨a,(Xl i a).1,(Xl i a).2⟩) (by decide) (by decide) (by decide);unfold jq;rw[fN,Ho,show eK.length=3 from rfl,Ui (by decide) λi j a b=>⟨h i j a b,h j i b a⟩]
 decide
theorem qJ:ga (gJ kK) eK=[[1,2,3]]:=by
 have h:∀i j,i<3->j<3->Rh (py (gJ kK) eK) i j:=TQ (nx:=uM) (P:=oK) (λi a=>Ec.2 ⟨a,(Xl i a).1,ol (Xl i a).2⟩) (by decide) (by decide) (by decide);unfold ga;rw[show eK.length=3 from rfl,Ui (C:=Cn (gJ kK) eK) (by decide) h]
 decide
theorem da:fy kK=R3.map (IZ kK):=(Xg WM (List.Perm.refl _) (by decide)).symm
theorem d9(i:Int)(h:(B7 kK i).af=[]):Pb kK i=(R3.map (IZ kK)).flatMap (FM i):=by grind[Pb,da,ZB,Yo]
theorem qK:gv kK [4]=[1,4]:=by
 have a:Pb kK 4=[⟨4,1,lI 65⟩]:=by rw[d9 4 (by decide)];exact jc (by kernel_rfl)
 have g:Pb kK 1=[]:=by rw[d9 1 (by decide)];exact jc (by kernel_rfl)
 rw[<-YI (C:=[4,1]) WM (by decide) (by decide) λx=>?_]
 .exact (TC (List.Perm.swap _ _ _) (by decide)).symm
 .constructor
  .intro h;rcases Υ.1 h with rfl | h
   .exact .base (by decide)
   .rw[θ.1 h];exact YY.step (b:=⟨4,1,lI 65⟩) (i:=4) (.base (by decide)) (by rw[a];exact θ.2 Z)
  .intro h
   induction h with
   | base h=>rw[θ.1 h];decide
   | step _ f c=>
    grind
theorem vB:hG kK 4=[⟨lI 65,9⟩]:=by
 unfold hG NI;rw[qK,da];exact jc (by kernel_rfl)
theorem qM:jr kK=[(4,⟨lI 65,9⟩)]:=by
 unfold jr;rw[<-show gC kK=BN kK.it from ς WM,db];have b:∀id∈([1,2,3]:List Int),iK kK id=none:=λid h=>Uv (by rw[lv];exact h)
 have a:iK kK 4=some (4,⟨lI 65,9⟩):=by
  unfold iK;rw[lv,vB,κ (by decide)];rfl
 show ([1,2,3,4]:List Int).filterMap (iK kK)=_
 simp_all
theorem qI:jp kK=[Gl [1,2,3],Gl [],Xf [[1,2,3]],Xf [[1,2,3]],.sl none (([(4,⟨lI 65,9⟩)]:List (Int×Ad)).map tv)]:=by
 unfold jp;rw[lv,tV,tT,tS,qJ,qL,qM]
theorem UK(l m:List Int)(u:l.length<=100000)(t:m.length<=100000):AL prog 17 [.d (.sl none (l.map AF)),.d (.sl none (m.map AF))] (Ah (decide (l=m))):=by
 refine Av func17 Z Z ntmps17 Z Z Z λF r=>(AC (AE (AB Z Z (AD (AC ?_)))));refine AC (AE (ek Z Z (J (BS Z E0 Z) (ek Z Z (J (BS Z E0 Z) (J (C6 Z Z Z) (AD (A6 Z (λc=>?_) (λc=>?_)))))))))
 .refine AC (AE (AB Z Z (AD (A2 ?_))));exact ⟨_,[],[],A0 Z,Z,Z,EF (λh=>by have i:=gV List.length h;have h:=c;omega),Z⟩
 .refine AW (AC (AC ?_));have j:l.length=m.length:=by have h:=c;omega
  refine AE (AB Z Z (AD (AZ (BM (α:=Nat) (λk=>⟨26,[(0,.d (.sl none (l.map AF))),(1,.d (.sl none (m.map AF))),(5,(.d (AF (k:Int))))],[]⟩) (λk=>k<=l.length/\l.take k=m.take k) (λk=>l.length-k) (0) (⟨ζ _,by simp⟩) (AX r [] Z Z ⟨Z,Z,Z,trivial⟩) ?_))));rintro k ⟨s,o⟩;refine AC (AC (AE (ek Z Z (ek Z Z (J (BS Z E0 Z) (J (Az Z Z Z) (AD (A6 Z (λa=>?_) (λa=>?_)))))))))
  .have g:k<l.length:=BQ a;refine AW (AC (AZ (AC ?_)));have f:k<m.length:=by omega
   refine CK [[],[],[0,1],[0,1,2],[],[],[4,5],[4,5,6],rg 8] mixed Z (By (Ap 0 Z Z (Ap 5 Z Z (AR [17,18] Z (BC (k) Z Z (Z) (A1 g) E0 Z BW Z) ?_))));refine AR [19] Z (CG Z Z Am Z) (Ap 1 Z Z (Ap 5 Z Z (AR [21,22] Z (BC (k) Z Z (Z) (A1 f) E0 Z BW Z) (AR [23] Z (CG Z Z Am Z) (Bu 8 Z Z Z (Ab 9 Z Z (J (C6 Z Z Z) (AD ⟨Z,?_⟩))))))));refine Bz (A6 Z (λb=>?_) (λb=>?_))
   .refine AC (AE (AB Z Z (AD (A2 ?_))));exact ⟨_,[],[],A0 Z,Z,Z,EF (λh=>by subst h;exact b Z),Z⟩
   .refine AW (AE (ek Z Z (J (Aj Z Z (AN (k+1) (by omega)) Z) (AB Z Z (AD ?_)))));exact ⟨k+1,⟨by show k+1<=_;omega,by rw[ψ g,ψ f,o,Classical.not_not.1 b]⟩,by show l.length-(k+1)<l.length-k;omega,AX r [] Z (Z) ⟨Z,Z,Z,trivial⟩⟩
  .refine Aw (AC (AE (AB Z Z (AD (A2 ?_)))));exact ⟨_,[],[],A0 Z,Z,Z,TR (by have i:=o;rw[η (by have h:=a;omega),η (by have h:=a;omega)] at i;exact i),Z⟩
theorem MH(l m:List (List Int))(w:l.length<=100000)(v:m.length<=100000)(j:∀x∈l,x.length<=100000)(i:∀x∈m,x.length<=100000):AL prog 18 [.d (Xf l),.d (Xf m)] (Ah (decide (l=m))):=by
 refine Av func18 Z Z ntmps18 Z Z Z λF t=>(AC (AE (AB Z Z (AD (AC ?_)))));refine AC (AE (ek Z Z (J (BS Z T1 Z) (ek Z Z (J (BS Z T1 Z) (J (C6 Z Z Z) (AD (A6 Z (λg=>?_) (λg=>?_)))))))))
 .refine AC (AE (AB Z Z (AD (A2 ?_))));exact ⟨_,[],[],A0 Z,Z,Z,EF (λh=>by have o:=gV List.length h;have h:=g;omega),Z⟩
 .refine AW (AC (AC ?_));have r:l.length=m.length:=by have h:=g;omega
  refine AE (AB Z Z (AD (AZ (BM (α:=Nat) (λk=>⟨27,[(0,.d (Xf l)),(1,.d (Xf m)),(5,(.d (AF (k:Int))))],[]⟩) (λk=>k<=l.length/\l.take k=m.take k) (λk=>l.length-k) (0) (⟨ζ _,by simp⟩) (AX t [] Z Z ⟨Z,Z,Z,trivial⟩) ?_))));rintro k ⟨u,s⟩;refine AC (AC (AE (ek Z Z (ek Z Z (J (BS Z T1 Z) (J (Az Z Z Z) (AD (A6 Z (λa=>?_) (λa=>?_)))))))))
  .have c:k<l.length:=BQ a;refine AW (AC (AZ (AC ?_)));have b:k<m.length:=by omega
   refine CK [[],[],[0,1],[0,1,2],[],[],[4,5],[4,5,6],rg 8,rg 9] mixed Z (By (Ap 0 Z Z (Ap 5 Z Z (AR [17,18] Z (BC (k) Z Z (Z) (A1 c) T1 Z DD Z) ?_))));refine AR [19] Z (CG Z Z BH Z) (Ap 1 Z Z (Ap 5 Z Z (AR [21,22] Z (BC (k) Z Z (Z) (A1 b) T1 Z DD Z) (AR [23] Z (CG Z Z BH Z) (Bu 8 Z Z Z (Ab 9 Z Z (J (Au (UK l[k] m[k] (j _ (ϑ c)) (i _ (ϑ b))) Z Z) (AD ⟨Z,?_⟩))))))));refine Ab 10 Z Z (J (KH Z Z) (AD ⟨Z,?_⟩));refine Bz (A6 Z (λf=>?_) (λf=>?_))
   .refine AC (AE (AB Z Z (AD (A2 ?_))));exact ⟨_,[],[],A0 Z,Z,Z,EF (λh=>by subst h;exact f Z),Z⟩
   .refine AW (AE (ek Z Z (J (Aj Z Z (AN (k+1) (by omega)) Z) (AB Z Z (AD ?_)))));exact ⟨k+1,⟨by show k+1<=_;omega,by rw[ψ c,ψ b,s,Classical.not_not.1 f]⟩,by show l.length-(k+1)<l.length-k;omega,AX t [] Z (Z) ⟨Z,Z,Z,trivial⟩⟩
  .refine Aw (AC (AE (AB Z Z (AD (A2 ?_)))));exact ⟨_,[],[],A0 Z,Z,Z,TR (by have o:=s;rw[η (by have h:=a;omega),η (by have h:=a;omega)] at o;exact o),Z⟩
theorem cX(id n:Int)(a b:List UInt8)(g:0<=n)(f:n<=1000000000000000):AL prog 40 [.d (AF id),.d (An a),.d (An b),.d (AF n)] (.agg [AF id,AF 0,AF id,.sl none ((Pn id a b n).po.map BT),.sl (some true) [],.sl (some true) []]):=by
 refine Av func40 Z Z ntmps40 Z Z Z λF c=>(AC (AE (V (Bx 1 FK Z Z Z Z) (AD (AC ?_)))));refine AE (ek Z Z (ek Z Z (ek Z Z (J (E5 aY cT Z Z Z) (ek Z Z (J (bQ Z (Ξ _ (by omega)) Z) (J (E5 QH cU Z Z Z) (ek Z Z ?_))))))));refine J (E5 aY cT Z Z Z) (ek Z Z (J (E5 QH cU Z Z Z) (V (C1 4 Yq Z Z Z Z Z Z Z Z) (VS (emb:=BT) 20 4 (Pn id a b n).po Z Z Z Z Z Z Z (J (E5 FK pX Z Z Z) (V (B3 Z Z Z Z Z Z Z Ch) (AD (A2 ?_))))))));exact ⟨_,[],[],A0 Z,Z,Z,Z,Z⟩
theorem N6(id n:Int)(a b:List UInt8)(l:0<=n)(k:n<=1000000000000000):AL prog 40 [.d (AF id),.d (An a),.d (An b),.d (AF n)] (Af (Pn id a b n)):=
 (cX id n a b l k).weak λw O v h=>h.aggMono Z (by simp[D.one]) λi c o g f v j=>by
  match i,g,f with
  | 0,g,f=>injection g with g;injection f with f;subst g f;exact j
  | 1,g,f=>injection g with g;injection f with f;subst g f;exact j
  | 2,g,f=>injection g with g;injection f with f;subst g f;exact j
  | 3,g,f=>injection g with g;injection f with f;subst g f;exact j
  | 4,g,f=>injection g with g;injection f with f;subst g f;exact j.anyNil
  | 5,g,f=>injection g with g;injection f with f;subst g f;exact j.anyNil
theorem Zb:AL prog 10 [] (.raw (.bool true)):=by
 have j:=We kK vC WM;rw[qI] at j;refine Av func10 Z Z ntmps10 Z Z Z λF s=>(AC ?_);refine AE (AB Z Z (AD (AC (AE (V (Bx 1 Ph Z Z Z Z) (AD (AC (AC ?_))))))));refine AE (V (C1 2 u6 Z Z Z Z Z Z Z Z) (VS (emb:=An) 7 2 tK Z Z Z Z Z Z Z (J (BS Z underlying86 Z) (ek Z Z (AD (AZ (Wh 1 0 0 901 NL Z Z Z Z Z Z Z (BM (α:=Nat×List Ad) (λq=>⟨86,[(1,(.ptr 1 0 0)),(7,(.d (.sl none (tK.map An)))),(8,(.d (AF 3))),(9,(.d (AF (q.1:Int))))],[(901,[.rowD 88 7 (q.2.map Bj)]),(1,[.blk 39 [.own 901 0 q.2.length,.d DA]])]⟩) (λq=>q.1<=3/\q.2=R3.take q.1) (λq=>3-q.1) ((0,[])) (⟨by decide,Z⟩) (AX s [901,1] Z Z ⟨Z,Z,Z,Z,trivial⟩) ?_))))))));rintro ⟨k,l⟩ ⟨r,a⟩;dsimp only at r a⊢;refine AC (AE (J (Az Z Z Z) (AD (AC (A6 Z (λc=>?_) (λc=>?_))))))
 .have i:k<tK.length:=by have h:=BQ (b:=3) c;exact h
  refine AW (AC (AZ (AC ?_)));have g:l++ [⟨⟨0,VC tK[k],[],[]⟩,0⟩]=R3.take (k+1):=by subst a;match k,i with | 0,_=>rfl | 1,_=>rfl | 2,_=>rfl
  have t:l.length<=3:=by rw[a];simp[R3];omega
  refine AE (J (BC (k) Z Z (Z) (A1 i) underlying86 Z va Z) (J (CG Z Z CJ Z) ?_));refine AB Z Z (AD (AE (J (AK Z DW Z Z Z) (J (AO Z Z Z NO Z) (ek Z Z (J (E5 aY cT Z Z Z) (J (E5 KM T6 Z Z Z) (J (E5 RP pW Z Z Z) ?_))))))));refine V (C1 50 NL Z Z Z Z Z Z Z Z) (V (Ev (l) ([⟨⟨0,VC tK[k],[],[]⟩,0⟩]) Z Z Z Z Z Z Z Z NL (by simp only[υ];omega) Z Z Z Z) (J (AK Z DW Z Z Z) (V (B3 Z Z Z Z Z Z Z pE) (AD (AE (J (Aj Z Z (AN (k+1) (by omega)) Z) (ek Z Z (AD ?_))))))));exact ⟨(k+1,_),⟨by show k+1<=3;omega,g⟩,by show 3-(k+1)<3-k;omega,AX s [901,1] Z (Z) ⟨Z,Z,Z,Z,trivial⟩⟩
 .refine Aw (AC ?_);have o:k=3:=by have h:=c;omega
  subst o;have f:l=R3:=a;subst f;refine VR (ys:=R3.map Bj) 1 0 0 901 Z Z Z (by decide) Z Z Z Z Z Z Z (AE (J (Au (N6 1 5 [65] [66] (by decide) (by decide)) Z Z) (J (Au (N6 2 5 [66] [67] (by decide) (by decide)) Z Z) (J (Au (N6 3 5 [67] [65] (by decide) (by decide)) Z Z) (J (Au (N6 4 4 [65] [68] (by decide) (by decide)) Z Z) (V (C1 52 Lh Z Z Z Z Z Z Z Z) (VS (emb:=Af) 27 52 dh Z Z Z Z Z Z Z ?_)))))));refine J (AK Z Cc Z Z Z) (V (B3 Z Z Z Z Z Z Z kn) (AD (AC (AE (J (Ay Z Z Bp Z Z Z) (J (Au (j) Z Z) (ek Z Z (J (De Z Z Z) ?_))))))));refine J (De Z Z Z) (V (Bx 4 oi Z Z Z Z) (V (B3 Z Z Z Z Z Z Z sP) (AB Z Z (AD (AC (AE (V (C1 54 BR Z Z Z Z Z Z Z Z) (VS (emb:=AF) 34 54 [1,2,3] Z Z Z Z Z Z Z ?_))))))));refine V (C1 55 OL Z Z Z Z Z Z Z Z) (VS (emb:=Gl) 35 55 [[1,2,3]] Z Z Z Z Z Z Z (AB Z Z (AD (AC (CK [[],[0],[0,1],[0,1,2],[0,1,2,3],[0,1,2],[0,1,2,5],[0,1,2,5,6],rg 8,rg 9,rg 10,rg 11,rg 12,rg 13,rg 14,rg 15,rg 16,rg 17,rg 18,rg 17,rg 20,rg 21,rg 22,rg 23,rg 24,rg 23,rg 26,rg 27,rg 28,rg 29,rg 30,rg 31,rg 32,rg 33,rg 34,rg 35,rg 36,rg 37,rg 38,rg 39,rg 40,rg 41,rg 42,rg 43,rg 44,rg 45,rg 46,rg 47,rg 48,rg 49,rg 50] mixed Z (Ab 1 Z Z (ek Z Z (AD ⟨Z,?_⟩))))))));refine Ab 2 Z Z (J (GR Z Z Z) (AD ⟨Z,?_⟩));refine Ab 3 Z Z (ek Z Z (Ey 38 Z (Z) (AD ⟨Z,?_⟩)));refine By (Aq [4,38] [] Z Z (λ_=>Cq Z Z Z (AK Z jX Z Z Z)) ?_);refine Ao [39,38] Z Z (λ_=>Cq Z Z Z (AO Z Z Z BH Z)) (Aq [6,38] [] Z Z (λ_=>Cq Z Z Z (Pe Z Z)) (Aq [41,38] [] Z Z (λ_=>Cq Z Z Z (BC (0) Z Z (Z) (Z) T1 Z DD Z)) (Aq [42,38] [] Z Z (λ_=>Cq Z Z Z (CG Z Z BH Z)) (Bu 8 Z Z Z (Ab 9 Z Z (AQ Z Z Z (J (Au (UK [1,2,3] [1,2,3] (by decide) (by decide)) Z Z) (AD ⟨Z,?_⟩))))))));refine Ab 10 Z Z (J (BZ Z Z Z Z) (AD ⟨Z,?_⟩));refine Ab 11 Z Z (ek Z Z (Ey 46 Z (Z) (AD ⟨Z,?_⟩)));refine Ab 12 Z Z (AQ Z Z Z (J (AK Z kG Z Z Z) (AD ⟨Z,?_⟩)));refine Ab 13 Z Z (AQ Z Z Z (J (AO Z Z Z BH Z) (AD ⟨Z,?_⟩)));refine Ab 14 Z Z (AQ Z Z Z (J (BS Z E0 Z) (AD ⟨Z,?_⟩)));refine Ab 15 Z Z (AQ Z Z Z (J (GR Z Z Z) (AD ⟨Z,?_⟩)));refine Ab 16 Z Z (J (BZ Z Z Z Z) (AD ⟨Z,?_⟩));refine Ab 17 Z Z (ek Z Z (Ey 52 Z (Z) (AD ⟨Z,?_⟩)));refine By (Aq [4,52] [] Z Z (λ_=>Cq Z Z Z (AK Z eG Z Z Z)) (Ao [53,52] Z Z (λ_=>Cq Z Z Z (AO Z Z Z tC Z)) (Aq [6,52] [] Z Z (λ_=>Cq Z Z Z (Pe Z Z)) (Bu 20 Z Z Z (Ab 21 Z Z (AQ Z Z Z (J (Au (MH [[1,2,3]] [[1,2,3]] (by decide) (by decide) (by decide) (by decide)) Z Z) (AD ⟨Z,?_⟩))))))));refine Ab 22 Z Z (J (BZ Z Z Z Z) (AD ⟨Z,?_⟩));refine Ab 23 Z Z (ek Z Z (Ey 58 Z (Z) (AD ⟨Z,?_⟩)));refine By (Aq [4,58] [] Z Z (λ_=>Cq Z Z Z (AK Z kF Z Z Z)) (Ao [59,58] Z Z (λ_=>Cq Z Z Z (AO Z Z Z tC Z)) (Aq [6,58] [] Z Z (λ_=>Cq Z Z Z (Pe Z Z)) (Bu 26 Z Z Z (Ab 27 Z Z (AQ Z Z Z (J (Au (MH [[1,2,3]] [[1,2,3]] (by decide) (by decide) (by decide) (by decide)) Z Z) (AD ⟨Z,?_⟩))))))));refine Ab 28 Z Z (J (BZ Z Z Z Z) (AD ⟨Z,?_⟩));refine Ab 29 Z Z (ek Z Z (Ey 64 Z (Z) (AD ⟨Z,?_⟩)));refine Ab 30 Z Z (AQ Z Z Z (J (AK Z iv Z Z Z) (AD ⟨Z,?_⟩)));refine Ab 31 Z Z (AQ Z Z Z (J (AO Z Z Z p9 Z) (AD ⟨Z,?_⟩)));refine Ab 32 Z Z (AQ Z Z Z (J (BS Z underlying30 Z) (AD ⟨Z,?_⟩)));refine Ab 33 Z Z (AQ Z Z Z (J (GR Z Z Z) (AD ⟨Z,?_⟩)));refine Ab 34 Z Z (J (BZ Z Z Z Z) (AD ⟨Z,?_⟩));refine Ab 35 Z Z (ek Z Z (Ey 70 Z (Z) (AD ⟨Z,?_⟩)));refine Ab 36 Z Z (AQ Z Z Z (J (AK Z iv Z Z Z) (AD ⟨Z,?_⟩)));refine Ab 37 Z Z (AQ Z Z Z (J (AO Z Z Z p9 Z) (AD ⟨Z,?_⟩)));refine Ab 38 Z Z (AQ Z Z Z (J (BC (0) Z Z (Z) (Z) underlying30 Z sN Z) (AD ⟨Z,?_⟩)));refine Ab 39 Z Z (AQ Z Z Z (J (ND Z qj Z Z Z) (AD ⟨Z,?_⟩)));refine Ab 40 Z Z (AQ Z Z Z (J (CG Z Z Am Z) (AD ⟨Z,?_⟩)));refine Ab 41 Z Z (AQ Z Z Z (J (GR Z Z Z) (AD ⟨Z,?_⟩)));refine Ab 42 Z Z (J (BZ Z Z Z Z) (AD ⟨Z,?_⟩));refine Ab 43 Z Z (ek Z Z (Ey 78 Z (Z) (AD ⟨Z,?_⟩)));refine Ab 44 Z Z (AQ Z Z Z (J (AK Z iv Z Z Z) (AD ⟨Z,?_⟩)));refine Ab 45 Z Z (AQ Z Z Z (J (AO Z Z Z p9 Z) (AD ⟨Z,?_⟩)));refine Ab 46 Z Z (AQ Z Z Z (J (BC (0) Z Z (Z) (Z) underlying30 Z sN Z) (AD ⟨Z,?_⟩)));refine Ab 47 Z Z (AQ Z Z Z (J (ND Z qi Z Z Z) (AD ⟨Z,?_⟩)));refine Ab 48 Z Z (AQ Z Z Z (J (CG Z Z Fo Z) (AD ⟨Z,?_⟩)));refine Ab 49 Z Z (AQ Z Z Z (J (GR Z Z Z) (AD ⟨Z,?_⟩)));refine Ab 50 Z Z (J (BZ Z Z Z Z) (AD ⟨Z,?_⟩));refine Ab 51 Z Z (AB Z Z (AD ⟨Z,?_⟩));refine Bz (A2 ?_);exact ⟨_,[],[],A0 Z,Z,Z,Z,Z⟩
end Go.Proofs.YteifpcnphnhaoaaGreat
namespace Go.Proofs.YteifpcnphnhaoaaGreat
open Go.RowKit
variable{s:kH}{R:Int->Int->Prop}{a:List (List Int)}{x:Nat}{P:List Nat}{c:List Int}{k:Nat}{f:gB}{g Y:List Ad}{h i:List Int}{j:Nat}{y:Int}
theorem fS(p:gB):gU p (Kz [])=[]:=by grind[gU,List.flatMap_eq_nil_iff,KG,Kz]
theorem ai(b:BB f=0):NI f (BP [])=[]:=by
 unfold NI;rw[List.flatMap_eq_nil_iff];intro x a;have h:=dS b x a;unfold Sk;rw[κ (by show ¬x.n+GL f x.r []<0;have:GL f x.r []=0:=rfl;omega)]
theorem Sj{M:List (Int×Bool)}:NI f M=[]↔∀x∈fy f,0<=x.n+GL f x.r M:=by grind[NI,List.flatMap_eq_nil_iff,Sk]
theorem YY.mono{S T:List Int}(h:∀x∈S,x∈T){x:Int}(a:YY f S x):YY f T x:=by
 induction a with
 | base a=>exact .base (h _ a)
 | step _ c b=>exact .step b c
structure rZ (R:Int->Int->Prop) (l Y:List Ad):Prop where
 len:Y.length=l.length
 at_:∀(j:Nat) x y,l[j]? =some x->Y[j]? =some y->y.r=x.r/\ -4*Mx<=y.n/\y.n<=4*Mx/\R x.n y.n
theorem rZ.set(h:rZ R g Y)(c:k<Y.length){n:Int}(f: -4*Mx<=n/\n<=4*Mx)(i:∀x,R x Y[k].n->R x n):rZ R g (Y.set k ⟨Y[k].r,n⟩):=
 ⟨by rw[iB];exact h.len,λj x y b a=>by
  rw[kB] at a
  split at a
  .rename_i e;subst e
   first | (rw[ς c] at a;injection a with a;subst a) | (injection a with a;subst a)
   have:=h.at_ k x _ b (ω c);exact ⟨this.1,f.1,f.2,i _ this.2.2.2⟩
  .exact h.at_ j x y b a⟩
theorem rZ.map(h:rZ R g Y):Y.map Ad.r=g.map Ad.r:=by
 refine ir (by rw[χ,χ,h.len]) λj b a=>?_;rw[χ] at b a;rw[iC,iC];exact (h.at_ j _ _ (ω a) (ω b)).1
theorem rZ.mem(h:rZ R g Y):∀y∈Y,∃x∈g,y.r=x.r/\ -4*Mx<=y.n/\y.n<=4*Mx/\R x.n y.n:=λy c=>by
 obtain ⟨j,b,rfl⟩:=jC.1 c;have a:j<g.length:=by rw[<-h.len];exact b
 exact ⟨g[j],ϑ a,h.at_ j _ _ (ω a) (ω b)⟩
def lX(x:Nat)(P:List Nat):Nat:=P.foldl (λa i=>a ||| 1<<<i) x
theorem nE(i j:Nat):(1<<<i).testBit j=decide (i=j):=by rw[Nat.one_shiftLeft,Nat.testBit_two_pow]
theorem N7:∀(P:List Nat) (x j:Nat),(lX x P).testBit j=true↔x.testBit j=true\/j∈P
 | [],x,j=>by simp[lX]
 | i::P,x,j=>by
  show (lX (x ||| 1<<<i) P).testBit j=true↔_;rw[N7 P,Nat.testBit_or,nE,Bool.or_eq_true,jP,Υ]
  constructor
  .rintro ((h | h) | h)
   .exact .inl h
   .exact .inr (.inl h.symm)
   .exact .inr (.inr h)
  .rintro (h | h | h)
   .exact .inl (.inl h)
   .exact .inl (.inr h.symm)
   .exact .inr h
theorem Z1:y∈gZ s x↔∃i,i<s.ids.length/\x.testBit i=true/\s.ids.getD i 0=y:=by grind[gZ]
theorem Rk(b:s.ids.Nodup)(a:y∈s.ids):y∈gZ s x↔x.testBit (s.ids.idxOf y)=true:=by grind[Z1]
def Hh:List Int->List Int->Bool
 | a::l,b::m=>if a=b then Hh l m else decide (a<b)
 | _,_=>false
def Cm(a b:List Int):Bool:=if a.length≠b.length then decide (a.length<b.length) else Hh a b
theorem Og:∀a b:List Int,Hh a b=true->Hh b a=false
 | a::l,b::m,h=>by
  unfold Hh at h⊢
  split at h
  .rename_i e;subst e;rw[ς rfl];exact Og l m h
  .rename_i e
   rw[κ (λh=>e h.symm)];have:=jc h;exact gp (by omega)
 | [],_,h=>by cases h
 | _::_,[],h=>by cases h
theorem Od:∀a b c:List Int,Hh a b=true->Hh b c=true->Hh a c=true
 | a::l,b::m,c::r,g,f=>by
  unfold Hh at g f⊢
  split at g
  .rename_i e;subst e
   split at f
   .rename_i e;rw[ς e];exact Od l m r g f
   .rename_i e;rw[κ e];exact f
  .rename_i e
   have k:=jc g
   split at f
   .rename_i i;subst i
    rw[κ e];exact g
   .have j:=jc f;rw[κ (by omega)];exact gi (by omega)
 | [],_,_,h,_=>by cases h
 | _::_,[],_,h,_=>by cases h
 | _::_,_::_,[],_,h=>by cases h
theorem Oe:∀a b:List Int,a.length=b.length->a≠b->Hh a b=false->Hh b a=true
 | a::l,b::m,c,f,h=>by
  unfold Hh at h⊢
  split at h
  .rename_i e;subst e
   rw[ς rfl];exact Oe l m (by simpa using c) (λh=>f (by rw[h])) h
  .rename_i e
   have:=of_decide_eq_false h;rw[κ (λh=>e h.symm)];exact gi (by omega)
 | [],[],_,f,_=>absurd Z f
 | [],_::_,c,_,_=>by simp at c
 | _::_,[],c,_,_=>by simp at c
theorem Ty(c:Cm h i=true):¬Cm i h=true:=by grind[Cm,Og]
theorem Tw{c:List Int}(g:Cm h i=true)(f:Cm i c=true):Cm h c=true:=by grind[Cm,Od]
theorem Tx(f:h≠i)(c:¬Cm h i=true):Cm i h=true:=by grind[Cm,Oe]
theorem Vu{c:Type}{R:c->c->Prop}(g:∀a b,R a b->¬R b a){l m:List c}(k:l.Pairwise R)(j:m.Pairwise R)(h:∀x,x∈l↔x∈m):l=m:=by
 have i:∀{l:List c},l.Pairwise R->l.Nodup:=λh=>h.imp λ{a b} f e=>by subst e;exact g _ _ f f
 grind[List.Perm.eq_of_pairwise,List.perm_ext_iff_of_nodup]
def IQ(n:Nat):Nat->Nat->List (List Nat)
 | 0,_=> [[]]
 | l+1,frm=>((List.range (n+1-(l+1)-frm)).map (frm+ ·)).flatMap λi=>(IQ n l (i+1)).map (i:: ·)
theorem HQ(n:Nat):∀(l a x:Nat),i3 n l a x=(IQ n l a).map (lX x)
 | 0,_,_=>rfl
 | l+1,a,x=>by
  unfold i3 IQ;rw[List.map_flatMap]
  congr 1
  funext i
  rw[HQ n l (i+1),gw]
  rfl
theorem T4{n:Nat}:∀{l a:Nat} {P:List Nat},P∈IQ n l a->P.length=l
 | 0,_,P,h=>by simp[IQ] at h;subst h;rfl
 | l+1,a,P,h=>by
  unfold IQ at h;obtain ⟨i,_,h⟩:=ja.1 h;obtain ⟨Q,b,rfl⟩:=Θ.1 h;rw[jj,T4 b]
theorem NY{n:Nat}:∀{l a:Nat} {P:List Nat},P∈IQ n l a->P.Pairwise (· < ·)/\∀j∈P,a<=j/\j<n
 | 0,_,P,h=>by simp[IQ] at h;subst h;simp
 | l+1,a,P,h=>by
  unfold IQ at h;obtain ⟨i,o,h⟩:=ja.1 h;obtain ⟨k,g,rfl⟩:=Θ.1 o;have f:=Ψ.1 g;obtain ⟨Q,r,rfl⟩:=Θ.1 h;obtain ⟨s,c⟩:=NY r;refine ⟨jQ.2 ⟨λj b=>by have:=(c j b).1;omega,s⟩,λj b=>?_⟩;rcases Υ.1 b with rfl | b
  .exact ⟨by omega,by omega⟩
  .have:=c j b;omega
theorem Rs{n:Nat}:∀{P:List Nat} {frm:Nat},frm<=n->P.Pairwise (· < ·)->(∀j∈P,frm<=j/\j<n)->P.length<=n-frm
 | [],_,_,_,_=>ζ _
 | i::P,frm,g,b,h=>by
  have k:=h i iV;obtain ⟨f,c⟩:=jQ.1 b
  have:=Rs (P:=P) (frm:=i+1) (by omega) c λj a=>⟨f j a,(h j (ip _ a)).2⟩
  rw[jj];omega
theorem T5{n:Nat}:∀{P:List Nat} {frm:Nat},P.Pairwise (· < ·)->(∀j∈P,frm<=j/\j<n)->P∈IQ n P.length frm
 | [],_,_,_=>by simp[IQ]
 | i::P,frm,f,h=>by
  have l:=h i iV;obtain ⟨g,c⟩:=jQ.1 f
  have b:∀j∈P,i+1<=j/\j<n:=λj a=>⟨g j a,(h j (ip _ a)).2⟩
  have k:=Rs (P:=P) (frm:=i+1) (by omega) c b;show i::P∈IQ n (P.length+1) frm;unfold IQ;refine ja.2 ⟨i,Θ.2 ⟨i-frm,Ψ.2 (by omega),by omega⟩,Θ.2 ⟨P,T5 c b,Z⟩⟩
theorem Z4(a:Int)(l m:List Int):Hh (a::l) (a::m)=Hh l m:=by grind[Hh]
theorem T3{n:Nat}{g:Nat->Int}(k:∀i j,i<j->j<n->g i<g j):∀l c,((IQ n l c).map λP=>P.map g).Pairwise λa b=>Hh a b=true
 | 0,_=>by simp[IQ]
 | l+1,c=>by
  unfold IQ;rw[List.map_flatMap,List.pairwise_flatMap]
  constructor
  .intro i _;rw[gw];have f:=T3 k l (i+1);rw[ig] at f⊢;refine f.imp λ{P Q} h=>?_;show Hh (g i::P.map g) (g i::Q.map g)=true;rw[Z4];exact h
  .rw[ig];refine nf (λ{a b} z t u x r y o=>?_) (List.pairwise_lt_range);obtain ⟨_,w,rfl⟩:=Θ.1 r;obtain ⟨_,v,rfl⟩:=Θ.1 o;obtain ⟨P,_,rfl⟩:=Θ.1 w;obtain ⟨Q,_,rfl⟩:=Θ.1 v;have s:=Ψ.1 t;have:=k (c+a) (c+b) (by omega) (by omega);show (if g (c+a)=g (c+b) then _ else decide (g (c+a)<g (c+b)))=true;rw[κ (by omega)];exact gi this
theorem Qg(b:P.Pairwise (· < ·))(a:∀j∈P,j<s.ids.length):gZ s (lX 0 P)=P.map λi=>s.ids.getD i 0:=by
 unfold gZ
 congr 1
 grind[Vu,jM,List.pairwise_lt_range,N7]
def f9(s:kH):List (List Int):=(f7 s).map (gZ s)
theorem aK(u:s.ids.Pairwise (· < ·)):(f9 s).Pairwise λa b=>Cm a b=true:=by
 unfold f9 f7;rw[List.map_flatMap,List.pairwise_flatMap]
 have o:∀k,∀L∈((i3 s.ids.length k 0 0).filter (iz s)).map (gZ s),L.length=k:=λk L D=>by
  grind[HQ,NY,Qg,T4]
 constructor
 .intro k _
  have C:=T3 (n:=s.ids.length) (g:=λi=>s.ids.getD i 0) (λi j f c=>by
   show s.ids.getD i 0<s.ids.getD j 0;rw[FG 0 c,FG 0 (Nat.lt_trans f c)]
   exact ia.1 u i j _ c f) k 0
  have B:((i3 s.ids.length k 0 0).map (gZ s)).Pairwise λa b=>Hh a b=true:=by
   rw[HQ,gw]
   have e:(IQ s.ids.length k 0).map (gZ s∘lX 0)=(IQ s.ids.length k 0).map λP=>P.map λi=>s.ids.getD i 0:=hQ λP z=>by
    have h:=NY z;exact Qg h.1 λj c=>(h.2 j c).2
   rw[e];exact C
  have A:(((i3 s.ids.length k 0 0).filter (iz s)).map (gZ s)).Pairwise λa b=>Hh a b=true:=List.Pairwise.sublist (List.filter_sublist.map _) B;refine nf (λ{a b} w v l=>?_) A;unfold Cm;rw[κ (by rw[o k a w,o k b v];exact λh=>h Z)];exact l
 .refine nf (λ{a b} _ _ l x t y r=>?_) (List.pairwise_lt_range);have F:=o a x t;have E:=o b y r;unfold Cm;rw[ς (by omega)];exact gi (by omega)
theorem dJ(y:Nat):y∈f7 s↔(∃P:List Nat,P.Pairwise (· < ·)/\(∀j∈P,j<s.ids.length)/\lX 0 P=y)/\iz s y=true:=by
 unfold f7;rw[ja]
 constructor
 .grind[HQ,NY]
 .rintro ⟨⟨P,c,b,e⟩,f⟩
  have h:=T5 (n:=s.ids.length) (frm:=0) c λj a=>⟨ζ _,b j a⟩
  have g:=Rs (n:=s.ids.length) (P:=P) (frm:=0) (ζ _) c λj a=>⟨ζ _,b j a⟩
  refine ⟨P.length,Ψ.2 (by omega),gk.2 ⟨?_,f⟩⟩;rw[HQ]
  grind
def OY(n x:Nat):List Nat:=(List.range n).filter λi=>x.testBit i
theorem OX(n x:Nat):(OY n x).Pairwise (· < ·):=List.Pairwise.sublist jM List.pairwise_lt_range
theorem cM{a:Nat}(h:a∈OY j x):a<j:=Ψ.1 (gk.1 h).1
theorem Lx(b:x<2^j):lX 0 (OY j x)=x:=by
 refine Nat.eq_of_testBit_eq λa=>?_
 grind[OY,N7,Nat.testBit_lt_two_pow,jB,Nat.pow_le_pow_right]
theorem pY(h:∀a∈P,a<j):lX 0 P<2^j:=by
 refine Nat.lt_pow_two_of_testBit _ λa b=>?_
 grind[N7]
theorem Z2(y:Nat):y∈f7 s↔y<2^s.ids.length/\iz s y=true:=by
 rw[dJ]
 constructor
 .rintro ⟨⟨P,_,a,rfl⟩,c⟩;exact ⟨pY a,c⟩
 .rintro ⟨f,a⟩;exact ⟨⟨OY s.ids.length y,OX _ _,λj b=>cM b,Lx f⟩,a⟩
theorem dM(L:List Int):L∈f9 s↔∃y,y<2^s.ids.length/\iz s y=true/\L=gZ s y:=by grind[f9,Z2]
theorem di(s:k<=a.length)(h:a.Pairwise λf b=>Cm f b=true)(w:∀y∈a.drop k,Cm c y=true)(i:k=0\/∃s:k-1<a.length,¬Cm c a[k-1]=true)(r:c∉a):(a.take k++ [c]++a.drop k).Pairwise λf b=>Cm f b=true:=by
 have v:∀y∈a.take k,Cm y c=true:=λy o=>by
  rcases i with i | ⟨g,i⟩
  .grind
  .obtain ⟨j,u,rfl⟩:=jh.1 o;have t:Cm a[k-1] c=true:=Tx (λe=>r (e▸ϑ g)) i;rcases Nat.lt_or_ge j (k-1) with l | l
   .exact Tw (ia.1 h j (k-1) (by omega) g l) t
   grind
 grind[kX,jx]
theorem lz(L:List Int):L∈a.take k++ [c]++a.drop k↔L∈a\/L=c:=by grind[kX]
theorem Z3(i:s.ids.Nodup){y:Nat}(g:x<2^s.ids.length)(f:y<2^s.ids.length)(h:gZ s x=gZ s y):x=y:=by
 rw[<-Lx g,<-Lx f]
 congr 1
 refine Vu (R:=λa b:Nat=>a<b) (λa b h=>by omega) (OX _ _) (OX _ _) λj=>?_
 have c:∀z j,j∈OY s.ids.length z↔∃k:j<s.ids.length,s.ids[j]∈gZ s z:=λz j=>by
  grind[OY,Rk]
 grind
section
variable{β:Type}(step:β->List Int->β×Bool)
end
section
variable{β:Type}
end
variable{a:List (List Int)}{s:kH}{c:Nat}
abbrev v3(s:kH)(u:Nat):Hp:=[(2,[.blk 390 [.d (.ptr (u3 s))]]),(3,[.blk 292 [.d (sF u)]])]
structure VN (s:kH) (m:Nat) (out:List (List Int)):Prop where
 o:out.Pairwise λa b=>Cm a b=true
 m_:∀L,L∈out↔∃y,y<m/\iz s y=true/\L=gZ s y
 l:out.length<=m
theorem VN.skip(h:VN s c a)(b:iz s c=false):VN s (c+1) a:=by
 refine ⟨h.o,λL=>?_,Nat.le_succ_of_le h.l⟩;rw[h.m_]
 grind
theorem VN.add{k:Nat}(h:VN s c a)(i:s.ids.Nodup)(b:c<2^s.ids.length)(t:iz s c=true)(f:k<=a.length)(l:∀y∈a.drop k,Cm (gZ s c) y=true)(j:k=0\/∃f:k-1<a.length,¬Cm (gZ s c) a[k-1]=true):VN s (c+1) (a.take k++ [gZ s c]++a.drop k):=by
 refine ⟨di f h.o l j λg=>?_,λL=>?_,?_⟩
 .obtain ⟨y,r,u,o⟩:=(h.m_ _).1 g;have:=Z3 i b (Nat.lt_trans r b) o;omega
 .rw[lz,h.m_]
  grind
 .have:=h.l
  grind
theorem VN.done(f:s.ids.Pairwise (· < ·))(h:VN s (2^s.ids.length) a):a=f9 s:=
 Vu (R:=λc b=>Cm c b=true) (λc b h=>Ty h) h.o (aK f) λL=>by rw[h.m_,dM]
section
variable{P:Program}{F:Fr}{s:AS}{d:Nat}{x y:Operand}{T T':TypeId}{ty:TypeId}{pos:String}{aft:Array Edge}{g:Option (Nat×Bool)}{k:IntKind}{a b:Int}
end
variable{a:List Int}{c:gB}
theorem WC(b:a.Nodup){j:Nat}(c:j<a.length):a[j]∉a.take j:=λh=>by
 obtain ⟨i,f,e⟩:=jh.1 h;rw[List.Nodup,ia] at b;exact b i j (by omega) c (by omega) e
theorem YL{i:AJ}:NQ i=0↔(∀x∈i.af,(0<=x/\x<=1000000000)/\x≠i.id)/\i.af.Nodup:=by
 unfold NQ;rw[VI]
 constructor
 .intro h
  have c:∀k (f:k<i.af.length),(0<=i.af[k]/\i.af[k]<=1000000000)/\i.af[k]≠i.id/\i.af[k]∉i.af.take k:=λk f=>by
   have:=h k (Ψ.2 f)
   grind[Mb]
  refine ⟨λx g=>?_,?_⟩
  .obtain ⟨k,f,rfl⟩:=jC.1 g
   grind
  .rw[List.Nodup,ia];intro a b o j l e;exact (c b j).2.2 (jh.2 ⟨a,by omega,e⟩)
 grind[ϑ,Mb,WC]
theorem qV{m:List Int}(h:∀x,x∈a↔x∈m):Kz a=Kz m:=by grind[Kz]
theorem Y2{m:List Int}(h:a.Perm m)(f:NI c (BP a)=[]):NI c (BP m)=[]:=
 Sj.2 λx b=>by
  have:=Sj.1 f x b;have g:(BP a).Perm (BP m):=h.map _;rw[L9 g] at this;exact this
structure uH (p:gB) (C:List Int):Prop where
 n:C.Nodup
 i:∀x∈C,x∈p.it.map AJ.id
 a:gU p (Kz C)=[]
 v:NI p (BP C)=[]
theorem uH.perm{C D:List Int}(h:uH c C)(a:C.Perm D):uH c D:=
 ⟨a.nodup_iff.1 h.n,λx b=>h.i x (a.mem_iff.2 b),by rw[<-qV λx=>a.mem_iff];exact h.a,Y2 a h.v⟩
theorem uH.nil(b:BB c=0):uH c []:=⟨List.nodup_nil,λx a=>(by cases a),fS c,ai b⟩
end Go.Proofs.YteifpcnphnhaoaaGreat
namespace Go.Proofs.YteifpcnphnhaoaaGreat
open Go.RowKit Go.Shelf
variable{S a:List Int}{E:List (AJ×Nat)}{N:MF}{k:Nat}{c:gB}{f:AU}{o:List Int}{g h:Nat}{i:AJ}{j:Int}
set_option maxRecDepth 100000
theorem mR(h:rp c):GJ c:=⟨by have:=h.1;omega,by have:=h.2.1;omega,λi a=>by have:=h.2.2 i a;omega⟩
def Wa(W:Int->Int->Bool)(c:Int)(l o:List Int):List Int:=l.foldl (λo x=>if (!decide (x∈o) && W c x)=true then o++ [x] else o) o
theorem M9{W:Int->Int->Bool}{c:Int}:Wa W c (j::a) o=Wa W c a (if (!decide (j∈o) && W c j)=true then o++ [j] else o):=rfl
theorem jL{W:Int->Int->Bool}{c:Int}:∀(l o:List Int) (x:Int),x∈Wa W c l o↔x∈o\/(x∈l/\W c x=true)
 | [],o,x=>by unfold Wa;simp
 | a::l,o,x=>by
  have g:=jL (W:=W) (c:=c) l (if (!decide (a∈o) && W c a)=true then o++ [a] else o) x;rw[M9,g,Υ]
  by_cases h:(!decide (a∈o) && W c a)=true
  .rw[ς h,ϖ,θ];simp only[gq] at h
   constructor
   .rintro ((b | rfl) | b)
    .exact .inl b
    .exact .inr ⟨.inl Z,h.2⟩
    .exact .inr ⟨.inr b.1,b.2⟩
   .rintro (b | ⟨rfl | b,f⟩)
    .exact .inl (.inl b)
    .exact .inl (.inr Z)
    .exact .inr ⟨b,f⟩
  .rw[κ h]
   constructor
   .rintro (b | b)
    .exact .inl b
    .exact .inr ⟨.inr b.1,b.2⟩
   .rintro (b | ⟨rfl | b,f⟩)
    .exact .inl b
    .refine .inl (Classical.byContradiction λi=>h ?_);rw[f,gp i];rfl
    .exact .inr ⟨b,f⟩
theorem Uw{W:Int->Int->Bool}{c:Int}:∀(l o:List Int),o<+:Wa W c l o
 | [],o=>List.prefix_refl o
 | a::l,o=>by
  rw[M9];refine List.IsPrefix.trans ?_ (Uw l _)
  split
  .exact List.prefix_append _ _
  .exact List.prefix_refl o
theorem PU{W:Int->Int->Bool}{c:Int}:∀(l o:List Int),o.Nodup->(Wa W c l o).Nodup
 | [],o,h=>h
 | a::l,o,h=>by
  rw[M9];refine PU l _ ?_
  split
  .rename_i b
   rw[gq] at b;have i:a∉o:=by simpa using b.1
   rw[kC];exact ⟨h,by simp,λx g y f e=>i (by rw[θ.1 f] at e;exact e▸g)⟩
  .exact h
structure BI (l:List Int) (a:Int) (i:Nat) (o:List Int):Prop where
 le:i<=o.length
 nd:o.Nodup
 sb:∀x∈o,x∈a::l
theorem BI.len{i:Nat}(h:BI a j i o):o.length<=a.length+1:=by
 have:=DJ h.nd h.sb;omega
theorem BI.step{W:Int->Int->Bool}{l:List Int}{a:Int}{i:Nat}{o:List Int}(h:BI l a i o)(g:i<o.length)(c:Int):BI l a (i+1) (Wa W c l o):=
 ⟨gY g (Uw l o).length_le,PU l o h.nd,λx f=>by
  rcases (jL l o x).1 f with b | b
  .exact h.sb x b
  .exact ip _ b.1⟩
inductive vS (W:Int->Int->Bool) (l:List Int) (a:Int):Int->Prop
 | refl:vS W l a a
 | step {y x:Int} (h:vS W l a y) (hx:x∈l) (hw:W y x=true):vS W l a x
theorem fC(a:List AU)(E:List (AJ×Nat)):(ga a E).length<=E.length/\∀x∈ga a E,x.length<=E.length:=by grind[ga,jY,aM]
theorem eR(p:gB)(l:List Int):(DY p l).length<=p.it.length:=by grind[DY,aW]
theorem sL{l:List (List Int)}{n:Nat}(h:l.length<=n/\∀x∈l,x.length<=n)(a:n<=100000):l.length<=100000/\∀x∈l,x.length<=100000:=by grind
theorem qB(l:List (List Int))(h:l.length<=100000/\∀x∈l,x.length<=100000):AL prog 18 [.d (Xf l),.d (Xf l)] (Ah true):=by grind[MH]
theorem qS{i:Nat}(a:i<E.length):DK E i∈E.map Prod.fst:=by rw[S2 a];exact jg (ϑ _)
structure v7 (p:gB) (L:List Int) (W:List (List Int)) (c:List Int):Prop where
 two:2<=c.length
 len:c.length<=p.it.length
 nd:c.Nodup
 lg:∀x∈c,x∈gF p/\x∉DV p
 wt:∀x∈c,∃(m:Nat) (h:m<L.length) (h2:m<W.length),L[m]=x/\∃y,y∈W[m]/\y∈c
structure vT (p:gB) (S:List Int) (T:List (List Int)):Prop where
 sum:(T.map List.length).sum=S.length
 el:∀c∈T,c.Nodup/\c.length<=p.it.length/\∀x∈c,x∈S/\∃a,a∈p.it/\a.id=x
 ap:T.Pairwise λc d=>∀x∈c,∀y∈d,∀a b,a∈p.it->b∈p.it->a.id=x->b.id=y->¬Je (gJ p) a b
abbrev v6:FuncId:=90
def Tm(S:List Int)(x:Int):Bool:=!decide (x∈S)
theorem TT(a:N g=some (.cells 124 [Pa h]))(c:HU N h S)(id:Int):
  AP prog v6 [.d (AF id),.d (pD g 0)] [(41,[.multi N])] λr i=>r= .d (Ah (Tm S id))/\i=[(41,[.multi N])]:=by
 refine Av func90 Z Z ntmps90 Z Z Z λF j=>(AC (AE (AB Z Z (AD ?_))));refine AC (AE (J (EI (f:=41) Z Z a Z Te Z) (ek Z Z (V (VT (EK c id) Z [41] ⟨Z,trivial⟩ Z Z Z Z Z Z Z Z Z) (J (KH Z Z) (AB Z Z (AD (A2 ?_))))))));exact ⟨_,[41],_,A0 Z,Z,Z,by unfold Tm;simp,Z⟩
abbrev mI(b7:Nat):D:= .fn v6 [] [pD b7 0]
theorem qW(o:N g=some (.cells 124 [Pa h]))(v:HU N h S)(l:List Int)(y:l.length<=100000):
  AP prog 138 [.d (Gl l),.d (mI g)] [(41,[.multi N])] λr w=>r= .d (AF (Kw (Tm S) l))/\w=[(41,[.multi N])]:=by
 refine Av func138 Z Z ntmps138 Z Z Z λF t=>(AC (AE (AB Z Z (AD ?_))));refine AC (AC (AE (ek Z Z (J (BS Z E0 Z) (ek Z Z (AD (AZ (BM (α:=Nat) (λk=>⟨19,[(0,.d (Gl l)),(1,.d (mI g)),(7,(.d (AF (l.length:Int)))),(8,(.d (AF (k:Int))))],[(41,[.multi N])]⟩) (λk=>k<=l.length/\∀x∈l.take k,Tm S x=false) (λk=>l.length-k) (0) (⟨ζ _,by simp⟩) (AX t [41] Z Z ⟨Z,Z,Z,Z,trivial⟩) ?_))))))));rintro k ⟨u,j⟩;refine AC (AE (J (Az Z Z Z) (AD (AC (A6 Z (λs=>?_) (λs=>?_))))))
 .have f:k<l.length:=BQ s;refine AW (AC (AZ (AC (AE (ek Z Z (AB Z Z (AD (AC ?_))))))));refine AE (ek Z Z (ek Z Z (ek Z Z (J (BC (k) Z Z (Z) (A1 f) E0 Z BW Z) (J (CG Z Z Am Z) (V (VT (TT o v l[k]) Z [41] ⟨Z,trivial⟩ Z Z Z Z Z Z Z Z Z) (AD (JC Z (λi=>?_) (λi=>?_)))))))))
  .refine AC (AE (ek Z Z (AB Z Z (AD (A2 ?_)))));exact ⟨_,[41],_,A0 Z,Z,Z,Ae (by unfold Kw;rw[G1 f j (by simpa using i)]),Z⟩
  .refine AW (AE (J (Aj Z Z (AN (k+1) (by omega)) Z) (ek Z Z (AD ?_))));exact ⟨k+1,⟨by show k+1<=_;omega,by rw[ψ f];intro x c;rcases ϖ.1 c with c | c;exact j x c;rw[θ.1 c];simpa using i⟩,by show l.length-(k+1)<l.length-k;omega,AX t [41] Z (Z) ⟨Z,Z,Z,Z,trivial⟩⟩
 .refine Aw (AC (AE (AB Z Z (AD (A2 ?_)))));exact ⟨_,[41],_,A0 Z,Z,Z,Ae (by unfold Kw;rw[Ht (λx c=>j x (by rw[η (by have a:=s;omega)];exact c))]),Z⟩
def Mp(S l:List Int):List Int:=l.filter λx=>!Tm S x
theorem Xk(h:∀x∈a,Tm S x=false):Mp S a=a:=List.filter_eq_self.2 λx b=>by rw[h x b];rfl
theorem d7(b:k<a.length)(h:Tm S a[k]=false):Mp S (a.take (k+1))=Mp S (a.take k)++ [a[k]]:=by
 unfold Mp;rw[Es b,ς (by rw[h];rfl)]
theorem Rn(b:k<a.length)(h:Tm S a[k]=true):Mp S (a.take (k+1))=Mp S (a.take k):=by grind[Mp,Es]
theorem WK(S l:List Int):(Mp S l).length<=l.length:=iI _ _
theorem qs(X:∀h m,N h=some m->m.FlatM)(K:N g=some (.cells 124 [Pa h]))(W:HU N h S)(l:List Int)(hl:l.length<=100000):AP prog 88 [.own 930 0 l.length,.d (mI g)] [(930,[.rowD 3 1 (l.map AF)]),(41,[.multi N])] λr H'=>r= .own 930 0 (Mp S l).length/\H'=[(930,[.rowD 3 1 ((Mp S l++List.replicate (l.length-(Mp S l).length) 0).map AF)]),(41,[.multi N])]:=by
 have s:=qW K W l hl
 cases hfi:l.findIdx? (Tm S) with
 | none=>
  have L:∀x∈l,Tm S x=false:=λx O=>by have:=List.findIdx?_eq_none_iff.1 hfi x O;simpa using this
  have f:Kw (Tm S) l= -1:=by unfold Kw;rw[hfi]
  rw[f] at s;have D:=Xk L;refine Av func88 Z Z ntmps88 Z Z Z λF M=>(AC (AE (AB Z Z (AD (AC (AE ?_))))));refine ek Z Z (ek Z Z (V (QP [930] s (by exact ⟨.inr ⟨_,_,Z,.own Z Z (by simp) (η (by simp)),Z⟩,.inl Z,trivial⟩) Z X ⟨Z,trivial⟩ Z Z Z Z Z Z Z) (AB Z Z (AD (AC (AC (AE (ek Z Z ?_))))))));refine J (GR Z Z Z) (AD (Bw Z (Z) (AC (AE (ek Z Z (AB Z Z (AD (A2 ?_))))))));exact ⟨_,[930,41],_,A0 Z,Z,Z,by rw[D],by rw[D];simp⟩
 | some v=>
  obtain ⟨Q,E,G⟩:=List.findIdx?_eq_some_iff_getElem.1 hfi;have f:Kw (Tm S) l=(v:Int):=by unfold Kw;rw[hfi]
  rw[f] at s
  have C:∀x∈l.take v,Tm S x=false:=λx O=>by
   obtain ⟨j,hj,rfl⟩:=jh.1 O;have:=G j (by omega)
   simpa using this
  have P:Mp S (l.take (v+1))=l.take v:=by rw[Rn Q E,Xk C]
  refine Av func88 Z Z ntmps88 Z Z Z λF M=>(AC ?_);refine AE (AB Z Z (AD (AC (AE (ek Z Z (ek Z Z (V (QP [930] s (by exact ⟨.inr ⟨_,_,Z,.own Z Z (by simp) (η (by simp)),Z⟩,.inl Z,trivial⟩) Z X ⟨Z,trivial⟩ Z Z Z Z Z Z Z) (AB Z Z ?_))))))));refine AD (AC (AC (AE (ek Z Z (J (GR Z Z Z) (AD (Cr Z ((gp (by omega))) (AW ?_))))))));refine AC (AC (AE (ek Z Z (J (Aj Z Z (AN (v+1) (by omega)) Z) (AB Z Z (AD (AZ (BM (α:=Nat×Nat×List Int) (λq=>⟨42,[(0,(.own 930 0 l.length)),(1,(.d (mI g))),(5,(.d (AF (q.1:Int)))),(6,(.d (AF (q.2.1:Int))))],[(930,[.rowD 3 1 (q.2.2.map AF)]),(41,[.multi N])]⟩) (λq=>q.2.1<=l.length/\q.1<q.2.1/\q.2.2.length=l.length/\q.2.2.take q.1=Mp S (l.take q.2.1)/\q.2.2.drop q.2.1=l.drop q.2.1) (λq=>l.length-q.2.1) ((v,v+1,l)) (⟨by show v+1<=_;omega,jG _,Z,P.symm,Z⟩) (AX M [930,41] Z Z ⟨Z,Z,Z,Z,trivial⟩) ?_))))))));rintro ⟨i,j,c⟩ ⟨T,U,k,t,u⟩;dsimp only at T U k t u⊢;refine AC (AC (AE (ek Z Z (ek Z Z (J (RL Z E0 Z) (J (Az Z Z Z) (AD (A6 Z (λB=>?_) (λB=>?_)))))))))
  .have o:j<l.length:=BQ B;refine AW (AC (AZ (AC (AE ?_))));have H:j<c.length:=by omega
   have z:c[j]=l[j]:=by have Y:(c.drop j)[0]? =(l.drop j)[0]?:=by {rw[u]};rw[jl,jl,ib,ω H,ω o] at Y;injection Y
   refine ek Z Z (ek Z Z (J (DB (j) Z Z (Z) (o) Z E0 BW Z) (J (EC Z Z (A1 H) Z Am Z) (AB Z Z ?_))));refine AD (AC (AE (ek Z Z (ek Z Z (V (VT (TT K W c[j]) Z [41] ⟨Z,trivial⟩ Z Z Z Z Z Z Z Z Z) (J (NE Z Z) (AD (JC Z (λA=>?_) (λA=>?_)))))))))
   .have y:Tm S l[j]=false:=by rw[<-z];simpa using A
    refine AC (AE (ek Z Z (ek Z Z (ek Z Z (J (DB (i) Z Z (Z) ((by omega)) Z E0 BW Z) (V (FY (c) (c[j]) Z Z Z Z Z Z (by omega) Z BW) (AD (AE ?_))))))));refine ek Z Z (J (Aj Z Z (AN (i+1) (by omega)) Z) (AB Z Z (AD (AE (ek Z Z (J (Aj Z Z (AN (j+1) (by omega)) Z) (AB Z Z (AD ?_))))))));exact ⟨(i+1,j+1,_),⟨by show j+1<=_;omega,by show i+1<j+1;omega,by show (c.set i c[j]).length=_;rw[iB];exact k,by show (c.set i c[j]).take (i+1)=Mp S (l.take (j+1));rw[d7 o y,<-t,ψ (by rw[iB];omega),List.getElem_set_self,List.take_set_of_le (Γ i),z],by show (c.set i c[j]).drop (j+1)=l.drop (j+1);rw[List.drop_set_of_lt (by omega),<-List.tail_drop,<-List.tail_drop,u]⟩,by show l.length-(j+1)<l.length-j;omega,AX M [930,41] Z (Z) ⟨Z,Z,Z,Z,trivial⟩⟩
   .have y:Tm S l[j]=true:=by rw[<-z];simpa using A
    refine AW (AE (ek Z Z (J (Aj Z Z (AN (j+1) (by omega)) Z) (AB Z Z (AD ?_)))));exact ⟨(i,j+1,c),⟨by show j+1<=_;omega,by show i<j+1;omega,k,by show c.take i=Mp S (l.take (j+1));rw[Rn o y,t],by show c.drop (j+1)=l.drop (j+1);rw[<-List.tail_drop,<-List.tail_drop,u]⟩,by show l.length-(j+1)<l.length-j;omega,AX M [930,41] Z (Z) ⟨Z,Z,Z,Z,trivial⟩⟩
  .refine Aw (AC ?_);have R:j=l.length:=by have a:=B;omega
   have w:c.take i=Mp S l:=by rw[t,R,gy]
   have I:i=(Mp S l).length:=by rw[<-w,ϱ];omega
   refine AE (ek Z Z (ek Z Z (Mo (emb:=AF) (zd:=0) c i Z Z Z Z k.symm Z (by omega) E0 BW zeroValue3 Z Z Z Z Z Z ?_)));refine AD (AC (AE (ek Z Z (ek Z Z (J (Gs (i) Z Z Z (by simp only[χ,Δ,ϱ,List.length_replicate];omega) Z E0 BW Z) (AB Z Z (AD (A2 ?_))))))));exact ⟨_,[930,41],_,A0 Z,Z,Z,by rw[<-I],by rw[w,k,I]⟩
def RN(N:MF):Prop:=∀b m,N b=some m->m.FlatM
theorem WW:RN λ_=>none:=λ_ _ h=>by cases h
theorem HP{b:Nat}{o:Al}(h:RN N)(a:o.FlatM):RN (B5 N b o):=by grind[RN,B5]
theorem eD{b:Option (List Nat×Nat)}{l:List (Int×Bool)}:(Al.map b (B4 AF Ah l)).FlatM:=λe a=>by
 obtain ⟨x,_,rfl⟩:=Θ.1 a;exact ⟨Z,Z⟩
theorem Y1(l:List Int)(t:l.Nodup)(z:l.length<=1000000):AP prog 66 [.d (.sl none (l.map AF))] [] λr x=>∃b N,r= .d (Pa b)/\x=[(41,[.multi N])]/\HU N b l/\RN N:=by
 refine Av func66 Z Z ntmps66 Z Z Z λF j=>(AC (AE (AB Z Z (AD ?_))));refine AC (IC 41 Z Z Z (AE (V (Pc 1 Z Z Z Z) (MA 6 1 41 j Z Z Z Z Z Z Z Z Z Z (λ_=>rfl) λm y=>(JQ 41 m Z (GG _ _ _) Z (V (Bx 2 ac Z Z Z Z) (V (B3 Z Z Z Z Z Z Z bE) (AD ?_))))))));refine AC (AC (AE (ek Z Z (J (BS Z E0 Z) (ek Z Z (AD (AZ (BM (α:=Nat×MF) (λq=>⟨17,[(3,(.ptr 2 0 0)),(7,(.d (.sl none (l.map AF)))),(8,(.d (AF (l.length:Int)))),(9,(.d (AF (q.1:Int))))],[(2,[.blk 137 [.d (mD m)]]),(41,[.multi q.2])]⟩) (λq=>q.1<=l.length/\q.2 m=some (.map none (B4 AF Ah (BP (l.take q.1))))/\RN q.2) (λq=>l.length-q.1) ((0,_)) (⟨ζ _,GG _ _ _,by exact HP (HP WW (by intro e s;cases s)) (by intro e s;cases s)⟩) (AX j [2,41] Z Z ⟨Z,Z,Z,Z,trivial⟩) ?_))))))));rintro ⟨k,N⟩ ⟨u,i,g⟩;dsimp only at u i g⊢;refine AC (AE (J (Az Z Z Z) (AD (AC (A6 Z (λh=>?_) (λh=>?_))))))
 .refine AW (AC (AZ (AC ?_)));have a:k<l.length:=BQ h;refine AE (J (BC (k) Z Z (Z) (A1 a) E0 Z BW Z) (J (CG Z Z Am Z) (AB Z Z (AD ?_))));refine AE (J (AO Z Z Z Q8 Z) (ek Z Z (V (OG (f:=41) (BP (l.take k)) l[k] true Z Z i Z Eo IS Z Z) (AD (AE (J (Aj Z Z (AN (k+1) (by omega)) Z) (ek Z Z (AD ?_))))))));exact ⟨(k+1,_),⟨a,by show B5 _ _ _ _=_;rw[GG,ψ a,aU (Kl t a)],HP g eD⟩,by show l.length-(k+1)<l.length-k;omega,AX j [2,41] Z (Z) ⟨Z,Z,Z,Z,trivial⟩⟩
 .refine Aw (AC ?_);have o:k=l.length:=by have:=h;omega
  rw[o,gy] at i;refine fo (ds:=[mD m]) 3 2 41 j Z Z Z Z Z Z Z Z Z Z Z (λ_=>rfl) λb w=>(AE (J (YS (ds:=[]) (es:=[pD b 0]) Z Z Z Z Z) (AB Z Z (AD (A2 ?_)))));exact ⟨_,[41],_,A0 Z,Z,Z,b,_,Z,Z,⟨m,GG _ _ _,by rw[ID (λe=>by rw[e,w] at i;cases i)];exact i⟩,HP g (λc v=>by rw[θ.1 v];rfl)⟩
def IF(p:gB)(S:List Int)(r:AU):Prop:=∃i,i∈p.it/\i.id∈S/\r∈(dR (gJ p) i).map Prod.fst
def Gv(l:List Int)(i:AJ):AJ:=⟨i.id,i.pr,i.sq,i.po,i.pa,Mp l i.af⟩
noncomputable def gg(p:gB)(S:List Int):gB:=⟨p.ro.filter λx=>dec (IF p S x.r),(p.it.filter λi=>decide (i.id∈S)).map (Gv S)⟩
def Mf(rs:List AU)(E:List (AJ×Nat))(k:Nat)(r:AU):Prop:=∃i,i<k/\r∈(dR rs (DK E i)).map Prod.fst
theorem Y5(h:E.map Prod.fst=(gC c).filter λi=>decide (i.id∈a))(b:∀i,i∈gC c↔i∈c.it):Mf (gJ c) E E.length f↔IF c a f:=by
 constructor
 .grind[qS,Mf,IF]
 .rintro ⟨x,k,g,o⟩;have t:x∈E.map Prod.fst:=by rw[h,gk];exact ⟨(b _).2 k,by simpa using g⟩
  obtain ⟨e,s,rfl⟩:=Θ.1 t;obtain ⟨i,j,rfl⟩:=jC.1 s;exact ⟨i,j,by rw[S2 j];exact o⟩
theorem V2{a:List AU}:Mf a E (k+1) f↔Mf a E k f\/f∈(dR a (DK E k)).map Prod.fst:=by grind[Mf]
theorem Vq(p:gB)(l:List Int)(hf:GJ p)(hl:l.length<=100000)(hC:CZ p l=0)(hE:BB p=0)(hn:l.Nodup):AL prog 34 [.d (Bf p),.d (Gl l)] (.tup [Bf (gg p l),AF 0]):=by
 have hi30:=hf.i;have hr100:=hf.r;have hck:=J3 p l hf.b hl (by omega);rw[hC] at hck;have hxm:∀i,i∈gC p↔i∈p.it:=λi=>by rw[show gC p=BN p.it from ς hE];exact (aQ p.it).mem_iff
 have hol:(gC p).length<=30:=by rw[show gC p=BN p.it from ς hE,aW];exact hi30
 refine Av func34 Z Z ntmps34 Z Z Z λF j=>(AC (AE (V (Bh 1 Z Z Z Z Z Z Z) (V (Bx 2 Ph Z Z Z Z) (AB Z Z (AD ?_))))));refine AC (AC (AE (J (Ay Z Z Bp Z Z Z) (ek Z Z (J (Au (hck) Z Z) (AB Z Z (AD (AC ?_))))))));refine AE (ek Z Z (J (C6 Z Z Z) (AD (Cr Z (gp (by decide)) (AW (AC (AE (ek Z Z ?_))))))));refine Ca (VV (Y1 l hn (by omega)) Z [41] ⟨Z,trivial⟩ Z Z Z Z (λr H' ⟨b,N,O,K,_⟩=>by subst O K;exact ⟨Z,Z,Z⟩) Z) Z ?_;rintro _ ⟨r,H',⟨b,N0,O,K,hW0,hFl0⟩,rfl⟩;subst O K;refine V (Bx 7 ae Z Z Z Z) (V (B3 Z Z Z Z Z Z Z bF) (AD (AC (fo (ds:=[Pa b]) 7 7 41 j Z Z Z Z Z Z Z Z Z Z Z (λ_=>rfl) λv hb7=>?_))));have hW:=hW0.put (o:= .cells 124 [Pa b]) hb7;have hFl:=HP (b:=v) (o:= .cells 124 [Pa b]) hFl0 (λc hc=>by rw[θ.1 hc];rfl);have s:=GG N0 v (.cells 124 [Pa b])
 obtain ⟨N,hNe⟩:∃N,B5 N0 v (.cells 124 [Pa b])=N:=⟨_,Z⟩
 rw[hNe] at hW hFl s;rw[hNe];refine AE (V (Pc 50 Z Z Z Z) (AB Z Z (AD (AC (AC (AE (J (Ay Z Z Bp Z Z Z) (J (EI (f:=41) Z Z s Z Te Z) ?_))))))));refine Ca (VV (MV p hE hf WF [pD b 0] N (λid=>decide (id∈l)) (EK hW)) Z [41,40] ⟨Z,Z,trivial⟩ Z Z Z Z (λr H' ⟨E,M,O,K,_⟩=>by subst O K;exact ⟨Z,Z,Z⟩) Z) Z ?_;rintro _ ⟨r,H',⟨E,M,O,K,hR,hEq⟩,rfl⟩;subst O K;refine J (Jd Z (χ ..) cl Z) (ek Z Z (AD (AZ (BM (α:=Nat×List (AU×Bool)) (λq=>⟨97,[(2,(.ptr 1 0 0)),(4,(.ptr 2 0 0)),(7,(.d (pD v 0))),(8,(.map 50 0)),(29,(.d (.sl none (E.map Ct)))),(30,(.d (AT E.length))),(31,(.d (AT q.1)))],[(1,[.blk 39 [.d (.sl none (p.ro.map Bj)),.d (.sl none (p.it.map Af))]]),(2,[.blk 39 [.d DA,.d DA]]),(50,[BY Bc Ah q.2]),(41,[.multi N]),(40,[.multi M])]⟩) (λq=>q.1<=E.length/\∀r,Ac q.2 r false=true↔Mf (gJ p) E q.1 r) (λq=>E.length-q.1) ((0,[])) (⟨ζ _,λr=>⟨(λh=>by simp[Ac] at h),λ⟨i,h,_⟩=>absurd h (Nat.not_lt_zero i)⟩⟩) (AX j [1,2,50,41,40] Z Z ⟨Z,Z,Z,Z,Z,Z,Z,trivial⟩) ?_))));rintro ⟨k,U⟩ ⟨Y,w⟩;dsimp only at Y w⊢;refine AC (AE (J (Az Z Z Z) (AD (AC (A6 Z (λH=>?_) (λH=>?_))))))
 .refine AW (AC (AZ (AC ?_)));have a:k<E.length:=BQ H;have hE30:E.length<=30:=by have h1:(E.map Prod.fst).length<=(gC p).length:=(by rw[hEq];exact iI _ _);rw[χ] at h1;omega
  have hek:=ϑ a;refine AE (J (BC (k) Z Z (Z) (A1 a) cl Z GV Z) (J (C7 Z Z K3 Z) (V (Bx 10 Me Z Z Z Z) (V (B3 Z Z Z Z Z Z Z GV) (AD (AC ?_))))))
  obtain ⟨L,hLe⟩:∃L,dR (gJ p) (E[k]).1=L:=⟨_,Z⟩
  have y:=hR _ hek;rw[hLe] at y;refine Ma 40 (E[k]).2 Z y (λ_ _=>rfl) λB c hB hBn=>?_
  obtain ⟨M1,z⟩:∃M1,B5 M (E[k]).2 (.map (some (B,c)) (Jz L))=M1:=⟨_,Z⟩
  rw[z];have t:M1 (E[k]).2=some (.map (some (B,c)) (Jz L)):=by rw[<-z,GG]
  refine AE (J (AK Z LQ Z Z Z) (J (AO Z Z Z Td Z) (V (Lc 5 (f:=40) Z Z t Z CP Z Z Z Z) (AD (AZ (BM (α:=List Nat×List (AU×Int)×List (AU×Bool)) (λq=>⟨97,[(2,(.ptr 1 0 0)),(4,(.ptr 2 0 0)),(7,(.d (pD v 0))),(8,(.map 50 0)),(29,(.d (.sl none (E.map Ct)))),(30,(.d (AT E.length))),(31,(.d (AT k))),(37,(.ptr 5 0 0))],[(5,[.iter 40 (E[k]).2 c q.1]),(1,[.blk 39 [.d (.sl none (p.ro.map Bj)),.d (.sl none (p.it.map Af))]]),(2,[.blk 39 [.d DA,.d DA]]),(50,[BY Bc Ah q.2.2]),(41,[.multi N]),(40,[.multi M1])]⟩) (λq=>(q.2.1++CC L B q.1).Perm L/\∀r,Ac q.2.2 r false=true↔Mf (gJ p) E k r\/r∈q.2.1.map Prod.fst) (λq=>(CC L B q.1).length) (([],[],U)) (⟨by show ([]++CC L B []).Perm L;rw[nX (by simpa [B4] using hB)];exact List.Perm.refl _,λr=>by show Ac U r false=true↔_;rw[w r];simp⟩) (AX j [5,1,2,50,41,40] Z Z ⟨Z,Z,Z,Z,Z,Z,Z,Z,trivial⟩) ?_))))));rintro ⟨seen,acc,U⟩ ⟨hP,w⟩;dsimp only at hP w⊢;refine AC (AE (Rg (L) Z Z Z (t) Z (λS=>?_) (λj38 P g v38 R hb38 hB38 u=>⟨_,Z,?_⟩)))
  .rw[S] at hP;have v3:∀r,Ac U r false=true↔Mf (gJ p) E (k+1) r:=λr=>by rw[V2,w r,S2 a,hLe];exact or_congr Iff.rfl ((show acc.Perm L by simpa using hP).map Prod.fst).mem_iff
   refine JQ 40 (E[k]).2 Z t Z ?_;rw[show B5 M1 (E[k]).2 (.map none (Jz L))=M by rw[<-z,Ft];exact MD y];refine J (DC Z Z Z) (AD (AC (Cr Z Z (Aw (AE (J (Aj Z Z (AN (k+1) (by omega)) Z) (ek Z Z (AD ?_))))))));exact ⟨(k+1,U),⟨a,v3⟩,by show E.length-(k+1)<E.length-k;omega,AX j [1,2,50,41,40] Z (Z) ⟨Z,Z,Z,Z,Z,Z,Z,trivial⟩⟩
  .refine J (DC Z Z Z) (AD (AC (Bw Z Z (AW (AZ (AC (AE (J (Ld (L) j38 P Z Z Z (t) R hb38 Z) ?_))))))));refine J (DC Z Z Z) (V (Bx 11 KM Z Z Z Z) (V (B3 Z Z Z Z Z Z Z Yb) (AD (AE (ek Z Z (J (Ay Z Z C9 Z Z Z) (V (VH (U) (g) (true) Z Z Z Qe CY Z Z) (AD ?_))))))));exact ⟨(seen++ [P],acc++ [(g,v38)],BX U g true),⟨HB hP u,λr=>by show Ac (BX U g true) r false=true↔_;rw[HH,Ω,ϖ];by_cases e:r=g<;>simp[e,w r]⟩,by show (CC L B (seen++ [P])).length<(CC L B seen).length;rw[u.length_eq];exact jG _,AX j [5,1,2,50,41,40] Z (Z) ⟨Z,Z,Z,Z,Z,Z,Z,Z,trivial⟩⟩
 .refine Aw (AC ?_);have hke:k=E.length:=by have:=H;omega
  have Q:∀r,Ac U r false=dec (IF p l r):=λr=>by rw[kJ,FV,w r,hke];exact Y5 hEq hxm
  refine AE (V (Bx 12 Ph Z Z Z Z) (AD (AC (AC ?_))));refine Wh 12 0 0 901 NL Z Z Z Z Z Z Z (AE (J (AK Z DW Z Z Z) (J (AO Z Z Z NO Z) (J (BS Z an Z) (ek Z Z (AD (AZ (BM (α:=Nat×List Ad) (λq=>⟨97,[(2,(.ptr 1 0 0)),(4,(.ptr 2 0 0)),(7,(.d (pD v 0))),(8,(.map 50 0)),(12,(.ptr 12 0 0)),(46,(.d (.sl none (p.ro.map Bj)))),(47,(.d (AT p.ro.length))),(48,(.d (AT q.1)))],[(901,[.rowD 88 7 (q.2.map Bj)]),(12,[.blk 39 [.own 901 0 q.2.length,.d DA]]),(1,[.blk 39 [.d (.sl none (p.ro.map Bj)),.d (.sl none (p.it.map Af))]]),(2,[.blk 39 [.d DA,.d DA]]),(50,[BY Bc Ah U]),(41,[.multi N])]⟩) (λq=>q.1<=p.ro.length/\q.2=(p.ro.take q.1).filter λx=>dec (IF p l x.r)) (λq=>p.ro.length-q.1) ((0,[])) (⟨ζ _,Z⟩) (AX j [901,12,1,2,50,41] Z Z ⟨Z,Z,Z,Z,Z,Z,Z,Z,trivial⟩) ?_))))))));rintro ⟨k,T⟩ ⟨Y,hT⟩;dsimp only at Y hT⊢;refine AC (AE (J (Az Z Z Z) (AD (AC (A6 Z (λG=>?_) (λG=>?_))))))
  .refine AW (AC (AZ (AC ?_)));have a:k<p.ro.length:=BQ G;have hTl:T.length<=100:=by have:=iI (λx:Ad=>dec (IF p l x.r)) (p.ro.take k);rw[<-hT,ϱ] at this;omega
   refine AE (J (BC (k) Z Z (Z) (A1 a) an Z KS Z) (J (C7 Z Z Vi Z) (V (Bx 14 RP Z Z Z Z) (V (B3 Z Z Z Z Z Z Z KS) ?_))));refine AD (AC (AE (ek Z Z (J (AK Z EX Z Z Z) (J (Ay Z Z C9 Z Z Z) (J (IV (U) (p.ro[k].r) (false) _ Z Z Z Qe CY Sh Z Z) (AD (JC Z (λD=>?_) (λD=>?_)))))))))
   .refine AE (J (AK Z DW Z Z Z) (J (AO Z Z Z NO Z) (J (Ay Z Z Vi Z Z Z) ?_)));refine V (C1 51 NL Z Z Z Z Z Z Z Z) (V (Ev (T) ([p.ro[k]]) Z Z Z Z Z Z Z Z NL (by simp only[υ];omega) Z Z Z Z) (J (AK Z DW Z Z Z) (V (B3 Z Z Z Z Z Z Z pE) (AD (AE (J (Aj Z Z (AN (k+1) (by omega)) Z) (ek Z Z (AD ?_))))))));exact ⟨(k+1,T++ [p.ro[k]]),⟨a,by show _=(p.ro.take (k+1)).filter _;rw[ψ a,i7,<-hT,jS,ς (by rw[<-Q];exact D)];rfl⟩,by show p.ro.length-(k+1)<p.ro.length-k;omega,AX j [901,12,1,2,50,41] Z (Z) ⟨Z,Z,Z,Z,Z,Z,Z,Z,trivial⟩⟩
   .refine AW (AE (J (Aj Z Z (AN (k+1) (by omega)) Z) (ek Z Z (AD ?_))));exact ⟨(k+1,T),⟨a,by show _=(p.ro.take (k+1)).filter _;rw[ψ a,i7,<-hT,jS,κ (by rw[<-Q];simpa using D)];simp⟩,by show p.ro.length-(k+1)<p.ro.length-k;omega,AX j [901,12,1,2,50,41] Z (Z) ⟨Z,Z,Z,Z,Z,Z,Z,Z,trivial⟩⟩
  .refine Aw (AC (AC ?_));have X:k=p.ro.length:=by have:=G;omega
   have hTf:T=p.ro.filter λx=>dec (IF p l x.r):=by rw[hT,X,gy]
   refine VR (ys:=T.map Bj) 12 0 0 901 Z Z Z (by simp) (η (by simp)) Z Z Z Z Z Z ?_;refine Wh 12 0 1 902 Lh Z Z Z Z Z Z Z (AE (J (AK Z Cc Z Z Z) (J (AO Z Z Z IR Z) (J (BS Z No Z) (ek Z Z (AD (AZ (BM (α:=Nat×List AJ) (λq=>⟨97,[(2,(.ptr 1 0 0)),(4,(.ptr 2 0 0)),(7,(.d (pD v 0))),(12,(.ptr 12 0 0)),(64,(.d (.sl none (p.it.map Af)))),(65,(.d (AT p.it.length))),(66,(.d (AT q.1)))],[(902,[.rowD 55 6 (q.2.map Af)]),(12,[.blk 39 [.d (.sl none (T.map Bj)),.own 902 0 q.2.length]]),(2,[.blk 39 [.d DA,.d DA]]),(41,[.multi N])]⟩) (λq=>q.1<=p.it.length/\q.2=((p.it.take q.1).filter λi=>decide (i.id∈l)).map (Gv l)) (λq=>p.it.length-q.1) ((0,[])) (⟨ζ _,Z⟩) (AX j [902,12,2,41] Z Z ⟨Z,Z,Z,Z,Z,Z,Z,trivial⟩) ?_))))))));rintro ⟨k,I⟩ ⟨Y,hI⟩;dsimp only at Y hI⊢;refine AC (AE (J (Az Z Z Z) (AD (AC (A6 Z (λC=>?_) (λC=>?_))))))
   .refine AW (AC (AZ (AC ?_)));have a:k<p.it.length:=BQ C;have hxk:=hf.x _ (ϑ a);have hIl:I.length<=30:=by rw[hI,χ];have:=iI (λi:AJ=>decide (i.id∈l)) (p.it.take k);rw[ϱ] at this;omega
    refine AE (J (BC (k) Z Z (Z) (A1 a) No Z Ch Z) (J (C7 Z Z CM Z) (V (Bx 16 FK Z Z Z Z) (V (B3 Z Z Z Z Z Z Z Ch) (AD (AC ?_))))));refine AC (AE (J (EI (f:=41) Z Z s Z Te Z) (J (AK Z Nr Z Z Z) (J (AO Z Z Z Am Z) (V (VT (EK hW p.it[k].id) Z [41] ⟨Z,trivial⟩ Z Z Z Z Z Z Z Z Z) (J (KH Z Z) (AD (A6 Z (λA=>?_) (λA=>?_)))))))))
    .refine Aw (AE (J (Aj Z Z (AN (k+1) (by omega)) Z) (ek Z Z (AD ?_))));exact ⟨(k+1,I),⟨a,by show _=((p.it.take (k+1)).filter _).map _;rw[ψ a,i7,Ω,<-hI,jS,κ (by simpa using A)];simp⟩,by show p.it.length-(k+1)<p.it.length-k;omega,AX j [902,12,2,41] Z (Z) ⟨Z,Z,Z,Z,Z,Z,Z,trivial⟩⟩
    .refine AW (AC (CK [[],[0],[0,1],[],[3],rg 5,rg 5,rg 7,rg 8,rg 9] mixed Z (By (AR [16] Z (AK Z EZ Z Z Z) (Ao [75] Z Z (λ_=>Aa (AO Z Z Z Pp Z)) (AR [76] Z (Au (Um p.it[k].po (by omega)) Z Z) (AR [16] Z (AK Z Fx Z Z Z) ?_)))))));refine Ao [78] Z Z (λ_=>Aa (AO Z Z Z Tb Z)) (Bu 5 Z Z Z (By (AR [79] Z (Au (Ul p.it[k].pa (by omega)) Z Z) (AR [16] Z (AK Z EZ Z Z Z) (Bu 7 Z Z Z (Ab 8 Z Z (V (B3 Z Z Z Z Z Z Z pC) (AD ⟨Z,?_⟩))))))));refine Ab 9 Z Z (J (AK Z Fx Z Z Z) (AD ⟨Z,?_⟩));refine Ab 10 Z Z (V (B3 Z Z Z Z Z Z Z pB) (AD ⟨Z,?_⟩));refine Bz (AC (AE (J (AK Z Dz Z Z Z) (J (AO Z Z Z BH Z) (V (FH ((Un p.it[k].af (by omega)).by [(20,930)] Z) Z [930] ⟨Z,trivial⟩ Z Z Z Z Z Z Z Z Z) (J (YS (ds:=[]) (es:=[pD v 0]) Z Z Z Z Z) ?_))))));refine V (FH (qs hFl s hW p.it[k].af (by omega)) Z [930,41] ⟨Z,Z,trivial⟩ Z Z Z Z Z Z Z Z Z) (J (AK Z Dz Z Z Z) (V (B3 Z Z Z Z Z Z Z DD) (AD (VR (ys:=(Mp l p.it[k].af).map AF) 16 0 5 930 Z Z Z (by simp) (by rw[Ω,List.take_append_of_le_length (by simp),η (by simp)]) Z Z Z Z Z Z (AE (J (AK Z Cc Z Z Z) (J (AO Z Z Z IR Z) (J (Ay Z Z CM Z Z Z) ?_))))))));refine V (C1 52 Lh Z Z Z Z Z Z Z Z) (V (Ev (I) ([Gv l p.it[k]]) Z Z Z Z Z Z Z Z Lh (by simp only[υ];omega) Z Z Z Z) (J (AK Z Cc Z Z Z) (V (B3 Z Z Z Z Z Z Z kn) (AD (AE (J (Aj Z Z (AN (k+1) (by omega)) Z) (ek Z Z (AD ?_))))))));exact ⟨(k+1,I++ [Gv l p.it[k]]),⟨a,by show _=((p.it.take (k+1)).filter _).map _;rw[ψ a,i7,Ω,<-hI,jS,ς (by simpa using A)];rfl⟩,by show p.it.length-(k+1)<p.it.length-k;omega,AX j [902,12,2,41] Z (Z) ⟨Z,Z,Z,Z,Z,Z,Z,trivial⟩⟩
   .refine Aw (AC ?_);have W:k=p.it.length:=by have:=C;omega
    have hIf:I=(p.it.filter λi=>decide (i.id∈l)).map (Gv l):=by rw[hI,W,gy]
    refine VR (ys:=I.map Af) 12 0 1 902 Z Z Z (by simp) (η (by simp)) Z Z Z Z Z Z ?_;rw[hTf,hIf];refine AE (J (Ay Z Z Bp Z Z Z) (V (B3 Z Z Z Z Z Z Z Yc) (AB Z Z (AD (A2 ?_)))));exact ⟨_,[],_,A0 Z,Z,Z,Z,Z⟩
theorem R4(p:gB)(l:List Int)(f:E6 p)(c:l.length<=100000)(a:p.it.length<=1000)(g:CZ p l≠0):AL prog 34 [.d (Bf p),.d (Gl l)] (.tup [.agg [DA,DA],AF (CZ p l)]):=by
 have b:=J3 p l f c a;refine Av func34 Z Z ntmps34 Z Z Z λF h=>(AC ?_);refine AE (V (Bh 1 Z Z Z Z Z Z Z) (V (Bx 2 Ph Z Z Z Z) (AB Z Z (AD (AC (AC (AE (J (Ay Z Z Bp Z Z Z) ?_))))))));refine ek Z Z (J (Au (b) Z Z) (AB Z Z (AD (AC (AE (ek Z Z (J (C6 Z Z Z) (AD ?_))))))));refine Bw Z (gi g) (AC (AE (J (E5 Ph uo Z Z Z) (ek Z Z (V (B3 Z Z Z Z Z Z Z Yc) (AB Z Z (AD (A2 ?_))))))));exact ⟨_,[],_,A0 Z,Z,Z,Z,Z⟩
theorem SX(l:List Int)(h:Ax i=0):Ax (Gv l i)=0:=by
 obtain ⟨a,w,v,u,o,k,j,g,f⟩:=GC h
 have c:NQ (Gv l i)=0:=by
  obtain ⟨s,r⟩:=YL.1 j;exact YL.2 ⟨λx b=>s x (gk.1 b).1,List.Nodup.sublist jM r⟩
 have t:(Mp l i.af).length<=i.af.length:=iI _ _;have A:=a.po;have z:=a.pa;have y:=a.af;unfold Ax;rw[κ (by show ¬(¬(0<=i.id/\i.id<=1000000000)\/¬(0<=i.sq/\i.sq<=1000000000)\/¬(0<=i.pr/\i.pr<=2));omega),κ (by show ¬(256<i.po.length\/256<i.pa.length\/256<(Mp l i.af).length);omega)];show BO [Fk i,Ka i,NQ (Gv l i),L1 i,M7 i]=0;rw[o,k,c,g,f];rfl
theorem PM(l:List Int)(h:Ax i=0)(r:AU):CB (Gv l i) r=CB i r:=by
 unfold CB;rw[h,SX l h];rfl
theorem al(h:BB c=0){x:Ad}(j:x∈c.ro):IF c S x.r↔∃i,i∈(gg c S).it/\CB i x.r≠0:=by
 have b:x.r∈gJ c:=jg j;have k:=TJ h _ b
 constructor
 .rintro ⟨i,f,a,l⟩;have g:=Ee (P6 h).2.1 _ f;exact ⟨Gv S i,jg (gk.2 ⟨f,by simpa using a⟩),by rw[PM S g];exact (SN g b k).1 l⟩
 grind[Ee,P6,PM,SN,IF,gg]
theorem Xx{I:List AJ}{j:Nat}(a:j<I.length):(∃(m:Nat) (h:m<I.length),m<j+1/\CB I[m] f≠0)↔(∃(m:Nat) (h:m<I.length),m<j/\CB I[m] f≠0)\/CB I[j] f≠0:=by grind
theorem Vt(p:gB)(l:List Int)(hE:BB p=0)(N:GJ p)(hl:l.length<=100000):AL prog 38 [.d (Bf p),.d (Gl l)] (Bf (gg p l)):=by
 have X:=N.i;have O:=N.r;refine Av func38 Z Z ntmps38 Z Z Z λF f=>(AC (AE (V (Bh 1 Z Z Z Z Z Z Z) (V (Bx 2 aZ Z Z Z Z) (AD (AC (AE (V (Bx 5 aZ Z Z Z Z) ?_))))))));refine AD (AC (AC (Wh 5 0 1 902 J7 Z Z Z Z Z Z Z (AE (AB Z Z (AD (AZ (BM (α:=Nat×List AJ) (λq=>⟨102,[(1,(.d (Gl l))),(2,(.ptr 1 0 0)),(4,(.ptr 2 0 0)),(5,(.ptr 5 0 0)),(6,(.d (AT q.1)))],[(902,[.rowD 93 6 (q.2.map Af)]),(5,[.blk 25 [.d DA,.own 902 0 q.2.length]]),(1,[Do 25 p]),(2,[.blk 25 [.d DA,.d DA]])]⟩) (λq=>q.1<=p.it.length/\q.2=((p.it.take q.1).filter λi=>decide (i.id∈l)).map (Gv l)) (λq=>p.it.length-q.1) ((0,[])) (⟨ζ _,Z⟩) (AX f [902,5,1,2] Z Z ⟨Z,Z,Z,Z,Z,trivial⟩) ?_))))))));rintro ⟨k,I⟩ ⟨R,H⟩;dsimp only at R H⊢;refine AC ?_;refine AC (AE (ek Z Z (J (AK Z J5 Z Z Z) (J (AO Z Z Z DI Z) (J (BS Z F0 Z) (J (Az Z Z Z) (AD (A6 Z (λB=>?_) (λB=>?_)))))))))
 .refine AW (AC (AZ (AC ?_)));have a:k<p.it.length:=BQ B;have hxk:=N.x _ (ϑ a);have hIl:I.length<=30:=by rw[H,χ];have:=iI (λi:AJ=>decide (i.id∈l)) (p.it.take k);rw[ϱ] at this;omega
  refine AE ?_;refine J (AK Z J5 Z Z Z) (J (AO Z Z Z DI Z) (ek Z Z (J (BC (k) Z Z (Z) (A1 a) F0 Z Cz Z) (J (C7 Z Z G8 Z) (V (Bx 7 VW Z Z Z Z) (V (B3 Z Z Z Z Z Z Z Cz) (AD (AC ?_))))))));refine AC (AE (ek Z Z (J (AK Z Fw Z Z Z) (J (AO Z Z Z Am Z) (J (Au (FP l p.it[k].id (by omega)) Z Z) (J (KH Z Z) (AD (A6 Z (λz=>?_) (λz=>?_)))))))))
  .refine Aw (AE (ek Z Z (J (Aj Z Z (AN (k+1) (by omega)) Z) (AB Z Z (AD ?_)))));exact ⟨(k+1,I),⟨a,by show _=((p.it.take (k+1)).filter _).map _;rw[ψ a,i7,Ω,<-H,jS,κ (by simpa using z)];simp⟩,by show p.it.length-(k+1)<p.it.length-k;omega,AX f [902,5,1,2] Z (Z) ⟨Z,Z,Z,Z,Z,trivial⟩⟩
  .refine AW (AC (AE (AB Z Z ?_)));refine AD (AC (AC (AE (AB Z Z (AD (AZ (NF 8 13 BR Z Z Z Z (BM (α:=Nat×List Int) (λq=>⟨102,[(1,(.d (Gl l))),(2,(.ptr 1 0 0)),(4,(.ptr 2 0 0)),(5,(.ptr 5 0 0)),(6,(.d (AT k))),(7,(.ptr 7 0 0)),(8,(.own 13 0 q.2.length)),(9,(.d (AT q.1)))],[(13,[.rowD 3 1 (q.2.map AF)]),(7,[.blk 93 [.d (AF p.it[k].id),.d (AF p.it[k].pr),.d (AF p.it[k].sq),.d (.sl none (p.it[k].po.map BT)),.d (.sl none (p.it[k].pa.map C4)),.d (.sl none (p.it[k].af.map AF))]]),(902,[.rowD 93 6 (I.map Af)]),(5,[.blk 25 [.d DA,.own 902 0 I.length]]),(1,[Do 25 p]),(2,[.blk 25 [.d DA,.d DA]])]⟩) (λq=>q.1<=p.it[k].af.length/\q.2=Mp l (p.it[k].af.take q.1)) (λq=>p.it[k].af.length-q.1) ((0,[])) (⟨ζ _,Z⟩) (AX f [13,7,902,5,1,2] Z Z ⟨Z,Z,Z,Z,Z,Z,Z,Z,trivial⟩) ?_))))))));rintro ⟨m,A⟩ ⟨D,K⟩;dsimp only at D K⊢;refine AC ?_;refine AC (AE (ek Z Z (J (AK Z QB Z Z Z) (J (AO Z Z Z BH Z) (J (BS Z E0 Z) (J (Az Z Z Z) (AD (A6 Z (λy=>?_) (λy=>?_)))))))))
   .refine AW (AC (AZ (AC ?_)));have b:m<p.it[k].af.length:=BQ y;have hAl:A.length<=300:=by have:=WK l (p.it[k].af.take m);rw[<-K,ϱ] at this;omega
    refine AE ?_;refine ek Z Z (J (AK Z QB Z Z Z) (J (AO Z Z Z BH Z) (ek Z Z (J (BC (m) Z Z (Z) (A1 b) E0 Z BW Z) (J (CG Z Z Am Z) (J (Au (FP l p.it[k].af[m] (by omega)) Z Z) (AD (A6 Z (λw=>?_) (λw=>?_)))))))))
    .refine AE (ek Z Z (J (AK Z QB Z Z Z) (J (AO Z Z Z BH Z) (ek Z Z (J (BC (m) Z Z (Z) (A1 b) E0 Z BW Z) (J (CG Z Z Am Z) ?_))))));refine V (C1 50 BR Z Z Z Z Z Z Z Z) (V (Ev (A) ([p.it[k].af[m]]) Z Z Z Z Z Z Z Z BR (by simp only[υ];omega) Z Z Z Z) (AB Z Z (AD (AE (ek Z Z (J (Aj Z Z (AN (m+1) (by omega)) Z) (AB Z Z (AD ?_))))))));exact ⟨(m+1,A++ [p.it[k].af[m]]),⟨b,by show _=Mp l (p.it[k].af.take (m+1));rw[d7 b (by unfold Tm;simpa using w),K]⟩,by show p.it[k].af.length-(m+1)<p.it[k].af.length-m;omega,AX f [13,7,902,5,1,2] Z (Z) ⟨Z,Z,Z,Z,Z,Z,Z,Z,trivial⟩⟩
    .refine AW (AE (ek Z Z (J (Aj Z Z (AN (m+1) (by omega)) Z) (AB Z Z (AD ?_)))));exact ⟨(m+1,A),⟨b,by show _=Mp l (p.it[k].af.take (m+1));rw[Rn b (by unfold Tm;simpa using w),K]⟩,by show p.it[k].af.length-(m+1)<p.it[k].af.length-m;omega,AX f [13,7,902,5,1,2] Z (Z) ⟨Z,Z,Z,Z,Z,Z,Z,Z,trivial⟩⟩
   .refine Aw (AC ?_);have P:m=p.it[k].af.length:=by have:=y;omega
    refine KL (emb:=AF) 8 13 A Z Z Z Z Z Z Z ?_;rw[show A=Mp l p.it[k].af by rw[K,P,gy]];refine AE ?_;refine ek Z Z (J (AK Z QB Z Z Z) (V (B3 Z Z Z Z Z Z Z DD) (AD (AE (J (AK Z J5 Z Z Z) (J (AO Z Z Z DI Z) (J (Ay Z Z G8 Z Z Z) (V (C1 51 J7 Z Z Z Z Z Z Z Z) ?_))))))));refine V (Ev (I) ([Gv l p.it[k]]) Z Z Z Z Z Z Z Z J7 (by simp only[υ];omega) Z Z Z Z) (J (AK Z J5 Z Z Z) (V (B3 Z Z Z Z Z Z Z sR) (AD (AE (ek Z Z (J (Aj Z Z (AN (k+1) (by omega)) Z) (AB Z Z (AD ?_))))))));exact ⟨(k+1,I++ [Gv l p.it[k]]),⟨a,by show _=((p.it.take (k+1)).filter _).map _;rw[ψ a,i7,Ω,<-H,jS,ς (by simpa using z)];rfl⟩,by show p.it.length-(k+1)<p.it.length-k;omega,AX f [902,5,1,2] Z (Z) ⟨Z,Z,Z,Z,Z,trivial⟩⟩
 .refine Aw (AC (AC ?_));have Q:k=p.it.length:=by have:=B;omega
  have g:I=(gg p l).it:=by rw[H,Q,gy];rfl
  have Y:I.length<=30:=by rw[g];unfold gg;show (List.map _ _).length<=30;rw[χ];have:=iI (λi:AJ=>decide (i.id∈l)) p.it;omega
  have W:∀i∈I,i.po.length<=12/\i.pa.length<=12/\i.af.length<=12:=λi M=>by rw[g] at M;obtain ⟨j,S,rfl⟩:=Θ.1 M;have h1:=N.x j (gk.1 S).1;have h2:=WK l j.af;exact ⟨h1.1,h1.2.1,by show (Mp l j.af).length<=12;omega⟩
  refine VR (ys:=I.map Af) 5 0 1 902 Z Z Z (by simp) (η (by simp)) Z Z Z Z Z Z (AE (AB Z Z (AD (AZ (Wh 5 0 0 901 Yr Z Z Z Z Z Z Z (BM (α:=Nat×List Ad) (λq=>⟨102,[(2,(.ptr 1 0 0)),(4,(.ptr 2 0 0)),(5,(.ptr 5 0 0)),(10,(.d (AT q.1)))],[(901,[.rowD 100 7 (q.2.map Bj)]),(5,[.blk 25 [.own 901 0 q.2.length,.d (.sl none (I.map Af))]]),(1,[Do 25 p]),(2,[.blk 25 [.d DA,.d DA]])]⟩) (λq=>q.1<=p.ro.length/\q.2=(p.ro.take q.1).filter λx=>dec (IF p l x.r)) (λq=>p.ro.length-q.1) ((0,[])) (⟨ζ _,Z⟩) (AX f [901,5,1,2] Z Z ⟨Z,Z,Z,Z,trivial⟩) ?_))))));rintro ⟨k,T⟩ ⟨R,G⟩;dsimp only at R G⊢;refine AC (AC ?_);skip;refine AE (ek Z Z (J (AK Z P5 Z Z Z) (J (AO Z Z Z GQ Z) (J (BS Z Ri Z) (J (Az Z Z Z) (AD (A6 Z (λv=>?_) (λv=>?_))))))))
  .refine AW (AC (AZ (AC ?_)));have a:k<p.ro.length:=BQ v;have hTl:T.length<=100:=by have:=iI (λx:Ad=>dec (IF p l x.r)) (p.ro.take k);rw[<-G,ϱ] at this;omega
   refine AE ?_;refine AB Z Z (AD (AC (AC (AE (AB Z Z (AD (AZ (BM (α:=Nat×Bool) (λq=>⟨102,[(2,(.ptr 1 0 0)),(4,(.ptr 2 0 0)),(5,(.ptr 5 0 0)),(10,(.d (AT k))),(11,(.d (Ah q.2))),(12,(.d (AT q.1)))],[(901,[.rowD 100 7 (T.map Bj)]),(5,[.blk 25 [.own 901 0 T.length,.d (.sl none (I.map Af))]]),(1,[Do 25 p]),(2,[.blk 25 [.d DA,.d DA]])]⟩) (λq=>q.1<=I.length/\(q.2=true↔∃(m:Nat) (h:m<I.length),m<q.1/\CB I[m] p.ro[k].r≠0)) (λq=>I.length-q.1) ((0,false)) (⟨ζ _,⟨(λh=>by cases h),λ⟨m,_,h,_⟩=>absurd h (Nat.not_lt_zero m)⟩⟩) (AX f [901,5,1,2] Z Z ⟨Z,Z,Z,Z,Z,Z,trivial⟩) ?_))))))));rintro ⟨j,u⟩ ⟨S,L⟩;dsimp only at S L⊢;refine AC ?_;refine AC (AE (ek Z Z (J (AK Z J5 Z Z Z) (J (AO Z Z Z DI Z) (J (Jd Z (χ ..) F0 Z) (J (Az Z Z Z) (AD (A6 Z (λt=>?_) (λt=>?_)))))))))
   .refine AW (AC (AZ ?_));have c:j<I.length:=BQ t;have hxj:=W _ (ϑ c);refine CK [[],[0],[0,1],[0,1,2],[0,1],rg 5,rg 6,[0,1],[0,1,7],[0,1],[0,1,7,8,9],[0,1,7,8,9,10],[0,1,7,8,9,10,11],rg 13,rg 14,rg 15,rg 16] mixed Z (Ab 1 Z Z (ek Z Z (AD ⟨Z,?_⟩)));refine Ab 2 Z Z (ek Z Z (Kf 75 Z (λs=>?_) (λs=>?_)))
    .refine AD ⟨Z,?_⟩;refine By (Aq [5,75] [] Z Z (λ_=>EJ Z Z Z Z) (Aq [76,75] [] Z Z (λ_=>EJ Z Z Z Z) (Aq [12,75] [] Z Z (λ_=>EJ Z Z Z Z) (Aq [77,78,75] [] Z Z (λ_=>EJ Z Z Z Z) (Aq [79,75] [] Z Z (λ_=>EJ Z Z Z Z) (Aq [2,75] [] Z Z (λ_=>EJ Z Z Z Z) ?_))))));refine Aq [81,75] [] Z Z (λ_=>EJ Z Z Z Z) (Aq [10,75] [] Z Z (λ_=>EJ Z Z Z Z) (Aq [82,83,75] [] Z Z (λ_=>EJ Z Z Z Z) (Aq [84,75] [] Z Z (λ_=>EJ Z Z Z Z) (Aq [85,75] [] Z Z (λ_=>EJ Z Z Z Z) (Bu 13 Z Z Z (Ab 14 Z Z (AI Z Z Z Z (AD ⟨Z,?_⟩))))))));refine Ab 15 Z Z (AI Z Z Z Z (AD ⟨Z,?_⟩));refine Ab 16 Z Z (J (BZ Z Z Z Z) (AD ⟨Z,?_⟩));refine Ab 17 Z Z (AB Z Z (AD ⟨Z,?_⟩));refine Bz (AE (ek Z Z (J (Aj Z Z (AN (j+1) (by omega)) Z) (AB Z Z (AD ?_)))));exact ⟨(j+1,true),⟨c,by show true=true↔_;rw[Xx c,<-L];simp[s]⟩,by show I.length-(j+1)<I.length-j;omega,AX f [901,5,1,2] Z (Z) ⟨Z,Z,Z,Z,Z,Z,trivial⟩⟩
    .refine AD ⟨Z,?_⟩;refine By (Aq [5,75] [] Z Z (λ_=>Cq Z Z Z (AK Z J5 Z Z Z)) (Ao [76,75] Z Z (λ_=>Cq Z Z Z (AO Z Z Z DI Z)) (Aq [12,75] [] Z Z (λ_=>Cq Z Z Z (Pe Z Z)) (Aq [77,78,75] [] Z Z (λ_=>Cq Z Z Z (BC (j) Z Z (Z) (A1 c) F0 Z Cz Z)) (Aq [79,75] [] Z Z (λ_=>Cq Z Z Z (C7 Z Z G8 Z)) (Aq [2,75] [] Z Z (λ_=>Cq Z Z Z (AK Z P5 Z Z Z)) (Ao [81,75] Z Z (λ_=>Cq Z Z Z (AO Z Z Z GQ Z)) ?_)))))));refine Aq [10,75] [] Z Z (λ_=>Cq Z Z Z (Pe Z Z)) (Aq [82,83,75] [] Z Z (λ_=>Cq Z Z Z (BC (k) Z Z (Z) (A1 a) Ri Z IH Z)) (Aq [84,75] [] Z Z (λ_=>Cq Z Z Z (VK Z J0 Z Z Z)) (Aq [85,75] [] Z Z (λ_=>Cq Z Z Z (C7 Z Z G7 Z)) (Bu 13 Z Z Z (Ab 14 Z Z (AQ Z Z Z (J (Au (Jm I[j] p.ro[k].r (by omega) (by omega) (by omega)) Z Z) (AD ⟨Z,?_⟩))))))));refine Ab 15 Z Z (AQ Z Z Z (J (C6 Z Z Z) (AD ⟨Z,?_⟩)));refine Ab 16 Z Z (J (Be Z Z Z Z) (AD ⟨Z,?_⟩));refine Ab 17 Z Z (AB Z Z (AD ⟨Z,?_⟩));refine Bz (AE (ek Z Z (J (Aj Z Z (AN (j+1) (by omega)) Z) (AB Z Z (AD ?_)))));exact ⟨(j+1,decide (¬CB I[j] p.ro[k].r=0)),⟨c,by show decide _=true↔_;rw[Xx c,<-L];simp[s]⟩,by show I.length-(j+1)<I.length-j;omega,AX f [901,5,1,2] Z (Z) ⟨Z,Z,Z,Z,Z,Z,trivial⟩⟩
   .refine Aw (AC ?_);have hje:j=I.length:=by have:=t;omega
    have C:dec (IF p l p.ro[k].r)=u:=by rw[kJ,FV,L,al hE (ϑ a),<-g];exact ⟨λ⟨i,M,U⟩=>by obtain ⟨m,D,rfl⟩:=jC.1 M;exact ⟨m,D,by omega,U⟩,λ⟨m,D,_,U⟩=>⟨_,ϑ D,U⟩⟩
    refine AE (ek Z Z (AD (JC Z (λo=>?_) (λo=>?_))))
    .refine CK [[],[0],[],[2],[],[2,3,4],[2,3,4,5],[2,3,4,5,6],rg 8,rg 9,rg 10] mixed Z (By (AR [5] Z (AK Z P5 Z Z Z) (Ao [91] Z Z (λ_=>Aa (AO Z Z Z GQ Z)) (AR [2] Z (AK Z P5 Z Z Z) ?_))));refine Ao [93] Z Z (λ_=>Aa (AO Z Z Z GQ Z)) (Ap 10 Z Z (AR [94,95] Z (BC (k) Z Z (Z) (A1 a) Ri Z IH Z) (AR [96] Z (C7 Z Z bp Z) (F6 [97] [52] [(98,_)] Z Z (λ_=>F7 (C1 52 Yr Z Z Z Z Z Z Z Z)) (.inr ⟨98,_,Z,Z,Z,Z,Z⟩) Z Z Z Z Z (Bu 8 Z Z Z (Ab 9 Z Z (V (Ev (T) ([p.ro[k]]) Z Z Z Z Z Z Z Z Yr (by simp only[υ];omega) Z Z Z Z) (AD ⟨Z,?_⟩))))))));refine Ab 10 Z Z (J (AK Z P5 Z Z Z) (AD ⟨Z,?_⟩));refine Ab 11 Z Z (V (B3 Z Z Z Z Z Z Z u0) (AD ⟨Z,?_⟩));refine Bz (AE (ek Z Z (J (Aj Z Z (AN (k+1) (by omega)) Z) (AB Z Z (AD ?_)))));exact ⟨(k+1,T++ [p.ro[k]]),⟨a,by show _=(p.ro.take (k+1)).filter _;rw[ψ a,i7,<-G,jS,ς (by rw[C];exact o)];rfl⟩,by show p.ro.length-(k+1)<p.ro.length-k;omega,AX f [901,5,1,2] Z (Z) ⟨Z,Z,Z,Z,trivial⟩⟩
    .refine AW (AE (ek Z Z (J (Aj Z Z (AN (k+1) (by omega)) Z) (AB Z Z (AD ?_)))));exact ⟨(k+1,T),⟨a,by show _=(p.ro.take (k+1)).filter _;rw[ψ a,i7,<-G,jS,κ (by rw[C,o];decide)];simp⟩,by show p.ro.length-(k+1)<p.ro.length-k;omega,AX f [901,5,1,2] Z (Z) ⟨Z,Z,Z,Z,trivial⟩⟩
  .refine Aw (AC ?_);have E:k=p.ro.length:=by have:=v;omega
   refine VR (ys:=T.map Bj) 5 0 0 901 Z Z Z (by simp) (η (by simp)) Z Z Z Z Z Z ?_;rw[show T=(gg p l).ro by rw[G,E,gy];rfl,g];refine AE (J (Ay Z Z EE Z Z Z) (V (B3 Z Z Z Z Z Z Z pF) (AD (A2 ?_))));exact ⟨_,[],[],A0 Z,Z,Z,Z,Z⟩
end Go.Proofs.YteifpcnphnhaoaaGreat
namespace Go.Proofs.YteifpcnphnhaoaaGreat
open Go.ChangeShapes Go.WideShapes Go.ChangeAt Go.RowKit
section
variable{H:Type}{enc:TypeId×Value->H}{w:World}
abbrev tt{α:Type}:α->Prop:=λ_=>True
theorem oI:CV enc prog w 3 1 AF tt:=(XS underlying3).asQ id (λ_ _=>rfl) (λ_ _=>trivial)
theorem oJ:CV enc prog w 2 1 AF tt:=(XS underlying2).asQ id (λ_ _=>rfl) (λ_ _=>trivial)
theorem oS:CV enc prog w 9 1 An tt:=(ca underlying9).asQ id (λ_ _=>rfl) (λ_ _=>trivial)
theorem ve:CV enc prog w 28 1 (λl:List Int=> .sl none (l.map AF)) tt:=(Ly E0 (by kernel_rfl) (by omega) (b:=8) (by kernel_rfl) oI).asQ id (λ_ _=>rfl) (λ_ _=>trivial)
theorem tJ:CV enc prog w 96 3 vO tt:=
 (Jr underlying96 (by kernel_rfl) (CE Z (by kernel_rfl) oS (CE Z (by kernel_rfl) oI (CE Z (by kernel_rfl) oS Js)))).asQ (λa=>(⟨a.1,a.2.1,a.2.2.1⟩:S8)) (λ_ _=>rfl) (λ_ _=>trivial)
theorem tI:CV enc prog w 192 4 BT tt:=
 (Jr underlying192 (by kernel_rfl) (CE Z (by kernel_rfl) tJ (CE Z (by kernel_rfl) oJ Js))).asQ (λa=>(⟨a.1,a.2.1⟩:ED)) (λ_ _=>rfl) (λ_ _=>trivial)
theorem ux:CV enc prog w 193 3 C4 tt:=
 (Jr underlying193 (by kernel_rfl) (CE Z (by kernel_rfl) oS (CE Z (by kernel_rfl) oS (CE Z (by kernel_rfl) oJ Js)))).asQ (λa=>(⟨a.1,a.2.1,a.2.2.1⟩:Jk)) (λ_ _=>rfl) (λ_ _=>trivial)
theorem uu:CV enc prog w 98 6 Bc tt:=
 (Jr underlying98 (by kernel_rfl) (CE Z (by kernel_rfl) oI (CE Z (by kernel_rfl) tJ (CE Z (by kernel_rfl) oS (CE Z (by kernel_rfl) oS Js))))).asQ (λa=>(⟨a.1,a.2.1,a.2.2.1,a.2.2.2.1⟩:AU)) (λ_ _=>rfl) (λ_ _=>trivial)
theorem uy:CV enc prog w 93 6 Af tt:=
 (Jr underlying93 (by kernel_rfl) (CE Z (by kernel_rfl) oI (CE Z (by kernel_rfl) oI (CE Z (by kernel_rfl) oI
  (CE Z (by kernel_rfl) (Ly Qs (by kernel_rfl) (by omega) (b:=48) (by kernel_rfl) tI)
  (CE Z (by kernel_rfl) (Ly b0 (by kernel_rfl) (by omega) (b:=40) (by kernel_rfl) ux) (CE Z (by kernel_rfl) ve Js))))))).asQ
  (λa=>(⟨a.1,a.2.1,a.2.2.1,a.2.2.2.1,a.2.2.2.2.1,a.2.2.2.2.2.1⟩:AJ)) (λ_ _=>rfl) (λ_ _=>trivial)
theorem uv:CV enc prog w 100 7 Bj tt:=
 (Jr underlying100 (by kernel_rfl) (CE Z (by kernel_rfl) uu (CE Z (by kernel_rfl) oJ Js))).asQ (λa=>(⟨a.1,a.2.1⟩:Ad)) (λ_ _=>rfl) (λ_ _=>trivial)
theorem uw:CV enc prog w 25 2 Bf tt:=
 (Jr underlying25 (by kernel_rfl) (CE Z (by kernel_rfl) (Ly Ri (by kernel_rfl) (by omega) (b:=88) (by kernel_rfl) uv) (CE Z (by kernel_rfl) (Ly F0 (by kernel_rfl) (by omega) (b:=96) (by kernel_rfl) uy) Js))).asQ
  (λa=>(⟨a.1,a.2.1⟩:gB)) (λ_ _=>rfl) (λ_ _=>trivial)
end
end Go.Proofs.YteifpcnphnhaoaaGreat
