import Derived.Test.YteifpcnphnhaoaaGreatMg26
open Go.Proofs.Tryz
namespace Go.Proofs.YteifpcnphnhaoaaGreat
open Go.RowKit
variable {g:List (List Nat)} {a:Nat ->Nat}
set_option maxRecDepth 100000
theorem cB (c:List Nat) (g:List (List Nat)) (K:GB g) (hK:∀a b,a<g.length ->b<g.length ->(fh c) a=(fh c) b ->a=b) (u:g.length=c.length):AO prog 181 [.d (Mf g),.fn 182 [.ptr 5 0 0]] (HL c) λr H'=>r= .d (.tup [fl (hG g (fh c)),Ah (decide ((hG g (fh c)).length=g.length))])/\H'=(HL c):=by
 have hn:=K.n;refine At func181 Z Z ntmps181 Z Z Z λF v=>(AC (AE (AB Z Z (AB Z Z (AD ?_)))));refine AC (AE (fZ Z Z (J (JZ Z (χ ..) dd Z) (V (FH 0 BP Z Z Z (by omega) oY Z Z Z Z) (AB Z Z (AD (AC (AC ?_))))))));rw [sM];refine AE (fZ Z Z (J (JZ Z (χ ..) dd Z) (fZ Z Z (AD (AZ (BO (α:=Nat×List Nat) (λq=>⟨102,[(0,.d (Mf g)),(1,.fn 182 [.ptr 5 0 0]),(6,(.own 0 0 g.length)),(21,(.d (Mf g))),(22,(.d (AR g.length))),(23,(.d (AR q.1)))],[(0,[.rowD 3 1 (q.2.map AR)])]++HL c⟩) (λq=>q.1<=g.length/\CW g q.1 0 q.2) (λq=>g.length - q.1) ((0,List.replicate g.length 0)) (⟨ζ _,mI g⟩) (AY v [0,5,6] Z Z No) ?_))))));rintro ⟨i,w⟩ ⟨hi,D⟩;dsimp only at hi D⊢;refine AC (AE (J (BB Z Z Z) (AD (AC (A9 Z (λR=>?_) (λR=>?_))))))
 .refine AX (AC (AZ (AC ?_)));have h:i<g.length:=BR R;have hsl:=K.len h;refine AE (J (BJ (i) Z Z (Z) (Z2 h) dd Z DD Z) (J (CI Z Z BL Z) (AB Z Z ?_)));refine AD (AC (AE (fZ Z Z (J (JZ Z (χ ..) ch Z) (fZ Z Z (AD (AZ (BO (α:=Nat×List Nat) (λq=>⟨102,[(0,.d (Mf g)),(1,.fn 182 [.ptr 5 0 0]),(6,(.own 0 0 g.length)),(21,(.d (Mf g))),(22,(.d (AR g.length))),(23,(.d (AR i))),(27,(.d (fl (fe g i)))),(28,(.d (AR (fe g i).length))),(29,(.d (AR q.1)))],[(0,[.rowD 3 1 (q.2.map AR)])]++HL c⟩) (λq=>q.1<=(fe g i).length/\CW g i q.1 q.2) (λq=>(fe g i).length - q.1) ((0,w)) (⟨ζ _,D⟩) (AY v [0,5,6] Z Z b0) ?_))))))));rintro ⟨k,w⟩ ⟨hk,D⟩;dsimp only at hk D⊢;refine AC (AE (J (BB Z Z Z) (AD (AC (A9 Z (λQ=>?_) (λQ=>?_))))))
  .refine AX (AC (AZ (AC ?_)));have s:k<(fe g i).length:=BR Q;have B:=mJ K D h s;have u:fh (fe g i) k<g.length:=by rw [<-D.len];exact B.1
   refine AE ?_;refine J (BJ (k) Z Z (Z) (Og s) ch Z BU Z) (J (CI Z Z An Z) (AB Z Z (AD (AE (fZ Z Z (fZ Z Z (J (DB (fh (fe g i) k) Z Z (Z) (u) Z ch BU Z) (J (EA Z Z (Og B.1) Z An Z) ?_))))))));refine J (Al Z Z (Ξ _ (by omega)) Z) (Pa 37 (.d (AR (fh w (fh (fe g i) k)+1))) Z (eqv (gG AF (by omega))) (J (DB (fh (fe g i) k) Z Z (Z) (u) Z ch BU Z) (V (FU (emb:=AR) w (fh w (fh (fe g i) k)+1) Z Z Z Z Z Z B.1 Z BU) (AD (AE (J (Al Z Z (Ξ _ (by omega)) Z) (fZ Z Z (AD ?_))))))));exact ⟨(k+1,w.set (fh (fe g i) k) (fh w (fh (fe g i) k)+1)),⟨s,B.2.2⟩,by show (fe g i).length - (k+1)<(fe g i).length - k;omega,AY v [0,5,6] Z (Z) b0⟩
  .refine Aw ?_;have hke:k=(fe g i).length:=by have:=Q;omega
   subst hke;refine AE (J (Al Z Z (Ξ _ (by omega)) Z) (fZ Z Z (AD ?_)));exact ⟨(i+1,w),⟨h,qa D⟩,by show g.length - (i+1)<g.length - i;omega,AY v [0,5,6] Z (Z) No⟩
 .refine Aw (AC ?_);have I:i=g.length:=by have:=R;omega
  subst I;obtain ⟨X,hwd⟩:=qd D;refine AE (fZ Z Z (J (FD rQ sT Z Z Z) (V (kc 1 Z Z Z Z Z Z Z) (AB Z Z (AD (AC ?_))))));refine AC (Zw 1 0 0 2 BP Z Z Z Z Z Z Z (AE (fZ Z Z (J (Qp Z ch Z) (fZ Z Z (AD (AZ (BO (α:=Nat×List Nat×List Nat) (λq=>⟨102,[(0,.d (Mf g)),(1,.fn 182 [.ptr 5 0 0]),(6,(.own 0 0 g.length)),(11,(.ptr 1 0 0)),(44,(.own 0 0 g.length)),(45,(.d (AR g.length))),(46,(.d (AR q.1)))],Mq c q.2.1 q.2.2++ [(0,[.rowD 3 1 (w.map AR)])]⟩) (λq=>q.1<=g.length/\FI (fh c) w q.1 q.2.1) (λq=>g.length - q.1) ((0,[],[])) (⟨ζ _,lm _ w⟩) (AY v [1,2,5,6,0] Z Z Ri) ?_))))))));rintro ⟨i,l,j⟩ ⟨hi,E⟩;dsimp only at hi E⊢;have hfl:=E.le;refine AC (AE (J (BB Z Z Z) (AD (AC (A9 Z (λP=>?_) (λP=>?_))))))
  .refine AX (AC (AZ (AC ?_)));have h:i<g.length:=BR P;refine AE (fZ Z Z (J (DB (i) Z Z (Z) (h) Z ch BU Z) (J (EA Z Z (Og (by rw [X];exact h)) Z An Z) ?_)));refine AB Z Z (AB Z Z (AD (AC (AE (fZ Z Z (J (GF Z Z Z) (AD (A9 Z (λO=>?_) (λO=>?_)))))))))
   .refine AE (fZ Z Z ?_);refine J (HQ bd Z Z) (fZ Z Z (J (GU sR Z Z) (V (FE (Tr c l j i (by omega) (λx H=>by rw [<-u];have:=((E.mem x).1 H).1;omega) (by rw [<-u];exact h)) Z [1,2,5,6] ⟨Z,Z,Z,Z,trivial⟩ Z Z Z Z Z Z Z Z Z) (AD (AE (J (Al Z Z (Ξ _ (by omega)) Z) (fZ Z Z (AD ?_))))))));exact ⟨(i+1,Me (fh c) l i,[]),⟨h,lp E (Int.ofNat.inj O)⟩,by show g.length - (i+1)<g.length - i;omega,AY v [1,2,5,6,0] Z (Z) Ri⟩
   .refine AX (AE (J (Al Z Z (Ξ _ (by omega)) Z) (fZ Z Z (AD ?_))));exact ⟨(i+1,l,j),⟨h,ln E (λe=>O (gG Int.ofNat e))⟩,by show g.length - (i+1)<g.length - i;omega,AY v [1,2,5,6,0] Z (Z) Ri⟩
  .refine Aw (AC ?_);have I:i=g.length:=by have:=P;omega
   subst I;have hoi:=lJ X hwd E.nd E.mem E.hp;refine AE (AB Z Z (AD (AC (AZ (NG 14 7 BP Z Z Z Z (BO (α:=List Nat×List Nat×List Nat×List Nat) (λq=>⟨102,[(0,.d (Mf g)),(1,.fn 182 [.ptr 5 0 0]),(6,(.own 0 0 g.length)),(11,(.ptr 1 0 0)),(14,(.own 7 0 q.2.2.2.length))],Mq c q.2.1 q.2.2.1++ [(0,[.rowD 3 1 (q.1.map AR)]),(7,[.rowD 3 1 (q.2.2.2.map AR)])]⟩) (λq=>OI g (fh c) q.1 q.2.1 q.2.2.2 []) (λq=>g.length - q.2.2.2.length) ((w,l,j,[])) (hoi) (AY v [1,2,5,6,0,7] Z Z F0) ?_))))));rintro ⟨w,l,j,f⟩ S;dsimp only at S⊢;have hol:=nl S;refine AC (AC (AE (fZ Z Z (V (FE (Vl c l j) Z [1,2,5,6] ⟨Z,Z,Z,Z,trivial⟩ Z Z Z Z Z Z Z Z Z) (J (HF Z Z Z) (AD (A9 Z (λN=>?_) (λN=>?_))))))))
   .refine AX (AZ (AC ?_));have C:l≠ []:=λe=>by subst e;exact absurd N (by decide)
    have ho1:=pK S C;have H:fh l 0<g.length:=S.lt _ (υ.2 (.inr (Dt (jV.2 C))));have hol1:f.length+1<=g.length:=by have:=jV.2 C;omega
    refine AE (fZ Z Z (J (HQ bd Z Z) (V (FE (ld c l j C (by omega) (λz hz=>by rw [<-u];exact S.lt z (υ.2 (.inr hz)))) Z [1,2,5,6] ⟨Z,Z,Z,Z,trivial⟩ Z Z Z Z Z Z Z Z Z) (J (Nu Z sR Z Z) (AB Z Z (AD (AC ?_)))))))
    obtain ⟨x,hxe⟩:∃x,fh l 0=x:=⟨_,Z⟩
    rw [hxe] at ho1 H⊢;refine AE (fZ Z Z (fZ Z Z (V (C5 21 BP Z Z Z Z Z Z Z Z) (V (F2 (emb:=AR) f [x] Z Z Z Z Z Z Z Z BP (by show (f.length+1)*8<=_;omega) Z Z Z Z) (AB Z Z (AD (AC (AE ?_))))))));refine fZ Z Z (fZ Z Z (J (BJ (x) Z Z (Z) (Z2 H) dd Z DD Z) (J (CI Z Z BL Z) (J (JZ Z (χ ..) ch Z) (fZ Z Z (AD (AZ (BO (α:=Nat×List Nat×List Nat×List Nat) (λq=>⟨102,[(0,.d (Mf g)),(1,.fn 182 [.ptr 5 0 0]),(6,(.own 0 0 g.length)),(11,(.ptr 1 0 0)),(14,(.own 7 0 (f++ [x]).length)),(73,(.d (fl (fe g x)))),(74,(.d (AR (fe g x).length))),(75,(.d (AR q.1)))],Mq c q.2.2.1 q.2.2.2++ [(0,[.rowD 3 1 (q.2.1.map AR)]),(7,[.rowD 3 1 ((f++ [x]).map AR)])]⟩) (λq=>q.1<=(fe g x).length/\OI g (fh c) q.2.1 q.2.2.1 (f++ [x]) ((fe g x).drop q.1)) (λq=>(fe g x).length - q.1) ((0,w,Pe (fh c) l,[x]++j)) (⟨ζ _,ho1⟩) (AY v [1,2,5,6,0,7] Z Z S1) ?_))))))));rintro ⟨k,w,l,j⟩ ⟨hk,o⟩;dsimp only at hk o⊢;refine AC (AE (J (BB Z Z Z) (AD (AC (A9 Z (λM=>?_) (λM=>?_))))))
    .refine AX (AC (AZ (AC ?_)));have s:k<(fe g x).length:=BR M;have hsl2:=K.len H;have t:fh (fe g x) k<g.length:=K.suc H (Dt s);rw [eA s] at o;obtain ⟨hw1,U,T⟩:=pM o t;have Y:=nl o;have W:=o.len;have hgn:=Og s
     obtain ⟨y,hye⟩:∃y,fh (fe g x) k=y:=⟨_,Z⟩
     rw [hye] at t hw1 U T hgn o;have G:y<w.length:=by rw [W];exact t
     have hwb:fh w y<=100000000000:=by have:=pI K o t (by rw [jE];have:=K.len H;omega);omega
     refine AE (J (BJ (k) Z Z (Z) (hgn) ch Z BU Z) (J (CI Z Z An Z) (AB Z Z (AD (AC (AE ?_))))));refine fZ Z Z (fZ Z Z (J (DB (y) Z Z (Z) (t) Z ch BU Z) (J (EA Z Z (Og G) Z An Z) (J (PS Z Z (Ξ _ (by omega)) Z) (Pa 83 (.d (AR (fh w y - 1))) Z (eqv (gG AF (by omega))) (J (DB (y) Z Z (Z) (t) Z ch BU Z) (V (FU (emb:=AR) w (fh w y - 1) Z Z Z Z Z Z G Z BU) (AD ?_))))))));refine AC (AE (fZ Z Z (fZ Z Z (J (DB (y) Z Z (Z) (t) Z ch BU Z) (J (EA Z Z (qP G) Z An Z) (J (GF Z Z Z) (AD (A9 Z (λL=>?_) (λL=>?_)))))))))
     .have A:fh w y - 1=0:=Int.ofNat.inj L;refine AE (fZ Z Z ?_);refine J (HQ bd Z Z) (fZ Z Z (J (GU sR Z Z) (V (FE (Tr c l j y (by rw [Δ,ς] at Y;omega) (λz hz=>by rw [<-u];exact o.lt z (υ.2 (.inr hz))) (by rw [<-u];exact t)) Z [1,2,5,6] ⟨Z,Z,Z,Z,trivial⟩ Z Z Z Z Z Z Z Z Z) (AD (AE (J (Al Z Z (Ξ _ (by omega)) Z) (fZ Z Z (AD ?_))))))));exact ⟨(k+1,w.set y (fh w y - 1),Me (fh c) l y,[]),⟨s,U A⟩,by show (fe g x).length - (k+1)<(fe g x).length - k;omega,AY v [1,2,5,6,0,7] Z (Z) S1⟩
     .have A:fh w y - 1≠0:=λe=>L (gG Int.ofNat e);refine AX (AE (J (Al Z Z (Ξ _ (by omega)) Z) (fZ Z Z (AD ?_))));exact ⟨(k+1,w.set y (fh w y - 1),l,j),⟨s,T A⟩,by show (fe g x).length - (k+1)<(fe g x).length - k;omega,AY v [1,2,5,6,0,7] Z (Z) S1⟩
    .refine Aw ?_;exact ⟨(w,l,j,f++ [x]),pJ o (show k=(fe g x).length by have:=M;omega),by show g.length - (f++ [x]).length<g.length - f.length;rw [Δ,ς];omega,AY v [1,2,5,6,0,7] Z (Z) F0⟩
   .refine Aw (AC ?_);have hl0:l=[]:=List.length_eq_zero_iff.1 (by have:=N;omega);have hE:=pL (hl0▸S);have hoe:=lF hK hE.1 hE.2;refine LL (emb:=AR) 14 7 f Z Z Z Z Z Z Z (AE (fZ Z Z ?_));refine fZ Z Z (J (Ba Z ch Z) (fZ Z Z (J (Ba Z dd Z) (J (GF Z Z Z) (AB Z Z (AB Z Z (AD (A4 ?_))))))));exact ⟨_,[5,6],_,A2 Z,Z,Z,by rw [hoe];exact gG (λb=>AV.d (.tup [fl f,Ah b])) (decide_eq_decide.2 Int.ofNat_inj),Z⟩
set_option maxHeartbeats 1000000 in
theorem UT (g:List (List Nat)) (U:GT g):AO prog 134 [.d (Mf g)] [] λr H'=>∃of cnt,hQ g.length (fe g) of cnt/\r= .tup [.own 10 0 cnt,.d (fl ((List.range g.length).map λv=>gR g of cnt (of v)))]/\H'=[(10,[.rowD 28 1 ((dZ cnt (GD (λv=>gR g of cnt (of v)) g.length)).map fl)])]:=by
 have hn:=U.gb.n;refine At func134 Z Z ntmps134 Z Z Z λF A=>(AC (AE (AB Z Z (AB Z Z (AD (AC (AE (fZ Z Z ?_))))))));refine C6 (VA (UU g U.gb) Z [2] ⟨Z,trivial⟩ Z Z Z Z (λr H' ⟨of,cnt,h1,h2,h3⟩=>by subst h2 h3;exact ⟨Z,Z,Z⟩) Z) Z ?_;rintro _ ⟨r,H',⟨of,cnt,t,rfl,rfl⟩,rfl⟩;refine fZ Z Z (J (DC Z Z Z) (J (DC Z Z Z) (AB Z Z (AB Z Z (AD (AC ?_))))));have hcn:=t.le;refine AE (fZ Z Z (V (FH 6 BP Z Z Z (by omega) oY Z Z Z Z) (V (By 5 rR Z Z Z Z) (V (B3 Z Z Z Z Z Z Z DD) (AD (AC (AC ?_)))))));rw [ox];refine AE (fZ Z Z (J (JZ Z (χ ..) dd Z) (J (PS Z Z (Ξ _ (by omega)) Z) (Pa 29 (.d (AF ((g.length:Int) - 1 - ((0:Nat):Int)))) Z (eqv (gG AF (by omega))) (AB Z Z (AD (AZ (BO (α:=Nat) (λd=>⟨142,[(0,.d (Mf g)),(4,(.own 2 0 g.length)),(5,(.d (AR cnt))),(6,(.ptr 5 0 0)),(7,(.d (AF ((g.length:Int) - 1 - (d:Int)))))],[(2,[.rowD 3 1 (rowN g.length of)]),(5,[.blk 28 [.own 6 0 cnt]]),(6,[.rowD 3 1 (rowN cnt (jz of g.length d))])]⟩) (λd=>d<=g.length) (λd=>g.length - d) (0) (ζ _) (AY A [2,5,6] Z Z F0) ?_))))))));intro d hd;refine AC (AC (AE (fZ Z Z (J (EJ Z Z Z) (AD (A9 Z (λh31=>?_) (λh31=>?_)))))))
 .refine AX (AC (AZ ?_));have P:g.length - 1 - d<g.length:=by omega
  refine fI 7 (.d (AR (g.length - 1 - d))) Z (eqv (gG AF (by omega))) ?_;have hoc:=t.lt _ P;refine CZ [[],[],[],[1,2],[1,2,3],[],rg 6,rg 7] mixed Z (CG (Au [6] Z Z (λ_=>Ae (AP Z Z Z BL Z)) ?_));refine Av 4 Z Z (Av 7 Z Z (Au [35,36] Z Z (λ_=>Ae (DB (g.length - 1 - d) Z Z (Z) (P) Z ch BU Z)) (Au [37] Z Z (λ_=>Ae (EA Z Z (Na P) Z An Z)) (Av 7 Z Z (CB 6 Z Z Z (Ad 7 Z Z (J (DB (of (g.length - 1 - d)) Z Z (Z) (hoc) Z ch BU Z) (AD ⟨Z,?_⟩))))))));refine Ad 8 Z Z (V (Xx Z Z Z Z Z (by rw [Dm];exact hoc) Dl Z BU) (AD ⟨Z,?_⟩));refine CM (AE (fZ Z Z (J (PS Z Z (Ξ _ (by omega)) Z) (Pa 33 (.d (AF ((g.length:Int) - 1 - ((d+1:Nat):Int)))) Z (eqv (gG AF (by omega))) (AB Z Z (AD ?_))))));exact ⟨d+1,by omega,by omega,AY A [2,5,6] Z (Z) F0⟩
 .refine Aw (AC ?_);have hdn:d=g.length:=by omega
  subst hdn;refine AE (fZ Z Z (V (FH 7 Wm Z Z Z (by omega) r6 Z Z Z Z) (AB Z Z (AD (AC (AC ?_))))));refine Qo 7 0 (hZ cnt (λ_=>none) (λ_=> [])) Z (by rw [Fe,List.length_replicate]) (T3 cnt) ⟨Wz _,KS _ _ _⟩ Z (Ht 40 Z Z Z (AE (fZ Z Z (J (JZ Z (χ ..) dd Z) (fZ Z Z (AD (AZ (BO (α:=Nat×MF×(Nat ->Hd)) (λq=>⟨142,[(0,.d (Mf g)),(4,(.own 2 0 g.length)),(5,(.d (AR cnt))),(6,(.ptr 5 0 0)),(8,(.own 7 0 cnt)),(43,(.d (Mf g))),(44,(.d (AR g.length))),(45,(.d (AR q.1)))],[(2,[.rowD 3 1 (rowN g.length of)]),(5,[.blk 28 [.own 6 0 cnt]]),(6,[.rowD 3 1 (rowN cnt (jz of g.length g.length))]),(7,[.rowD 28 1 (hZ cnt q.2.2 (NY g of q.1 0))]),(40,[.multi q.2.1])]⟩) (λq=>q.1<=g.length/\NH q.2.1 cnt q.2.2 (NY g of q.1 0)) (λq=>g.length - q.1) ((0,λ_=>none,λ_=>none)) (⟨ζ _,by rw [dt];exact NH.zero _⟩) (AY A [2,5,6,7,40] Z Z S1) ?_))))))));rintro ⟨i,M,G⟩ ⟨hi,z⟩;dsimp only at hi z⊢;refine AC (AE (J (BB Z Z Z) (AD (AC (A9 Z (λT=>?_) (λT=>?_))))))
  .refine AX (AC (AZ (AC ?_)));have l:i<g.length:=BR T;have s:=t.lt i l;refine AE (fZ Z Z (J (BJ (i) Z Z (Z) (Z2 l) dd Z DD Z) (J (CI Z Z BL Z) (AB Z Z (AB Z Z ?_)))));refine AD (AC (AE (fZ Z Z (J (JZ Z (χ ..) ch Z) (fZ Z Z (AD (AZ (BO (α:=Nat×MF×(Nat ->Hd)) (λq=>⟨142,[(0,.d (Mf g)),(4,(.own 2 0 g.length)),(5,(.d (AR cnt))),(6,(.ptr 5 0 0)),(8,(.own 7 0 cnt)),(9,(.d (AR i))),(43,(.d (Mf g))),(44,(.d (AR g.length))),(45,(.d (AR i))),(50,(.d (fl (fe g i)))),(51,(.d (AR (fe g i).length))),(52,(.d (AR q.1)))],[(2,[.rowD 3 1 (rowN g.length of)]),(5,[.blk 28 [.own 6 0 cnt]]),(6,[.rowD 3 1 (rowN cnt (jz of g.length g.length))]),(7,[.rowD 28 1 (hZ cnt q.2.2 (NY g of i q.1))]),(40,[.multi q.2.1])]⟩) (λq=>q.1<=(fe g i).length/\NH q.2.1 cnt q.2.2 (NY g of i q.1)) (λq=>(fe g i).length - q.1) ((0,M,G)) (⟨ζ _,z⟩) (AY A [2,5,6,7,40] Z Z ⟨Z,Z,Z,Z,Z,Z,Z,Z,Z,Z,Z,Z,trivial⟩) ?_))))))));rintro ⟨k,M,G⟩ ⟨hk,z⟩;dsimp only at hk z⊢;refine AC (AE (J (BB Z Z Z) (AD (AC (A9 Z (λS=>?_) (λS=>?_))))))
   .refine AX (AC (AZ (AC ?_)));have o:k<(fe g i).length:=BR S;have hgn:=Og o;have hsl:=U.gb.len l;have D:fh (fe g i) k<g.length:=U.gb.suc l (Dt o);have H:=du (of:=of) o;have I:=dw (of:=of) o
    obtain ⟨j,hje⟩:∃j,fh (fe g i) k=j:=⟨_,Z⟩
    rw [hje] at hgn D H I;have hln:=Xg g of i k (of i);have hlt:=gJ (Pr g (Nat.le_of_lt l)) U.tot;have hlt2:((fe g i).take k).length<=1048576:=by rw [ϖ];omega
    refine AE (J (BJ (k) Z Z (Z) (hgn) ch Z BU Z) ?_);refine J (CI Z Z An Z) (AB Z Z (AD (AC (CZ [[],[],[0,1],[0,1,2],[],[],[4,5],[4,5,6],rg 8] mixed Z (CG (Av 4 Z Z (Av 9 Z Z (Au [56,57] Z Z (λ_=>Ae (DB (i) Z Z (Z) (l) Z ch BU Z)) ?_))))))));refine Au [58] Z Z (λ_=>Ae (EA Z Z (Na l) Z An Z)) (Av 4 Z Z (Av 12 Z Z (Au [60,61] Z Z (λ_=>Ae (DB (j) Z Z (Z) (D) Z ch BU Z)) (Au [62] Z Z (λ_=>Ae (EA Z Z (Na D) Z An Z)) (CB 8 Z Z Z (Ad 9 Z Z (J (Cw Z Z Z) (AD ⟨Z,?_⟩))))))));refine CM (A9 Z (λR=>?_) (λR=>?_))
    .have w:=H (λe=>R (gG Int.ofNat e));refine CZ [[],[],[],[1,2],[1,2,3],[],[],[],[6,7],[6,7,8],[5,6,7,8,9],[5,6,7,8,9,10],[],[],[12,13],[12,13,14],[12,13,14,15],[5,6,7,8,9,10,11,12,13,14,15,16],rg 18,rg 19] mixed Z (CG (Av 8 Z Z (Av 4 Z Z (Av 9 Z Z (Ao [66,67] [2] Z Z (λ_=>Ae (DB (i) Z Z (Z) (l) Z ch BU Z)) (Ao [68] [2] Z Z (λ_=>Ae (EA Z Z (Na l) Z An Z)) ?_))))));refine Av 8 Z Z (Av 4 Z Z (Av 9 Z Z (Ao [71,72] [2] Z Z (λ_=>Ae (DB (i) Z Z (Z) (l) Z ch BU Z)) (Ao [73] [2] Z Z (λ_=>Ae (EA Z Z (Na l) Z An Z)) (Ao [70,74] [7] Z Z (λ_=>Ae (DB (of i) Z Z (Z) (s) Z dd DD Z)) (Ao [75] [7] Z Z (λ_=>Ae (EA Z Z (KJ s) Z BL Z)) (Av 4 Z Z (Av 12 Z Z ?_))))))));refine Ao [77,78] [2] Z Z (λ_=>Ae (DB (j) Z Z (Z) (D) Z ch BU Z)) (Ao [79] [2] Z Z (λ_=>Ae (EA Z Z (Na D) Z An Z)) (HC [80] [21] [(81,_)] Z Z (λ_=>HD (C5 21 BP Z Z Z Z Z Z Z Z)) (.inr ⟨81,_,Z,Z,Z,Z,Z⟩) Z Z Z Z Z (HC [76,81] [60,40,21] [(82,_)] Z Z (λ_=>HD (HT 76 60 40 (z.at_ (of i) s) Z Z (by rw [χ]) Z Z Z Z Z (F2 (emb:=AR) (NY g of i k (of i)) [of j] Z Z Z Z Z Z Z Z BP (by show ((NY g of i k (of i)).length+1)*8<=_;omega) Z Z Z Z))) (.inr ⟨82,_,Z,Z,Z,Z,Z⟩) Z Z Z Z Z (CB 18 Z Z Z (Ad 19 Z Z (FX 82 60 40 A Z Z Z (by rw [χ]) (by simp) Z Z Z Z Z Z Z (λ_ _=>rfl) λb c hb hc=>(J (DB (of i) Z Z (Z) (s) Z dd DD Z) (AD ⟨Z,?_⟩))))))));refine Ad 20 Z Z (V (Xx Z Z Z Z Z (by rw [Fe];exact s) (Sq (h:=some (b,c))) Z DD) (AD ⟨Z,?_⟩));refine CM (AE (J (Al Z Z (Ξ _ (by omega)) Z) (fZ Z Z (AD ?_))));exact ⟨(k+1,BZ (Be M (G (of i))) b (.row 3 1 c ((NY g of i k (of i)++ [of j]).map AR)),BE G (of i) (some (b,c))),⟨o,by have:=z.app s hb hc;rw [w] at this;exact this⟩,by show (fe g i).length - (k+1)<(fe g i).length - k;omega,AY A [2,5,6,7,40] Z (by rw [w];rfl) ⟨Z,Z,Z,Z,Z,Z,Z,Z,Z,Z,Z,Z,trivial⟩⟩
    .have X:=I (λh=>R (λe=>h (Int.ofNat.inj e)));refine AX (AE (J (Al Z Z (Ξ _ (by omega)) Z) (fZ Z Z (AD ?_))));exact ⟨(k+1,M,G),⟨o,by rw [<-X];exact z⟩,by show (fe g i).length - (k+1)<(fe g i).length - k;omega,AY A [2,5,6,7,40] Z (by rw [<-X];rfl) ⟨Z,Z,Z,Z,Z,Z,Z,Z,Z,Z,Z,Z,trivial⟩⟩
   .refine Aw ?_;have hke:k=(fe g i).length:=by have:=S;omega
    subst hke;refine AE (J (Al Z Z (Ξ _ (by omega)) Z) (fZ Z Z (AD ?_)));exact ⟨(i+1,M,G),⟨l,by rw [<-Xf];exact z⟩,by show g.length - (i+1)<g.length - i;omega,AY A [2,5,6,7,40] Z (by rw [Xf];rfl) S1⟩
  .refine Aw (AC ?_);have N:i=g.length:=by have:=T;omega
   subst N;refine fF 7 0 40 ((LA g of cnt).map fl) Z Z Z Z Z (by rw [χ,LA,Un,Fe]) z.melt ⟨KS _ _ _,cF _⟩ Z (LL (emb:=fl) 8 7 (LA g of cnt) Z Z Z (Un _ _).symm Z Z Z ?_);rw [bR cnt];have hll:=lW of g.length cnt;have hob:=cB (Uw of g.length cnt) (LA g of cnt) (qW U t) (by rw [LA,Un];exact pY t) (by rw [LA,Un,hll]);rw [<-Uw,show (AV.own 6 0 cnt)= .own 6 0 (Uw of g.length cnt).length by rw [hll]];refine AE (fZ Z Z ?_);refine J (qw Z Z) (V (FE hob Z [5,6] ⟨Z,Z,trivial⟩ Z Z Z Z Z Z Z Z Z) (fZ Z Z (J (Dc Z Z Z) (J (Dc Z Z Z) (AB Z Z (AB Z Z (AD (AC ?_))))))));have hsq:hG (LA g of cnt) (fh (Uw of g.length cnt))=iX g of cnt:=rfl;have y:=cD (LA g of cnt) (fh (Uw of g.length cnt));have B:∀k,k<(iX g of cnt).length ->fh (iX g of cnt) k<cnt:=λk hk=>by have:=lE (g:=LA g of cnt) (K:=fh (Uw of g.length cnt)) hk;rwa [LA,Un] at this
   rw [LA,Un,<-LA] at y;rw [hsq] at y⊢;refine AE (fZ Z Z (V (FH 9 BP Z Z Z (by omega) oY Z Z Z Z) (AB Z Z (AD (AC (AC ?_))))));rw [ox]
   obtain ⟨a,C⟩:∃a,iX g of cnt=a:=⟨_,Z⟩
   rw [C] at y B⊢;refine AE (fZ Z Z (J (JZ Z (χ ..) ch Z) (fZ Z Z (AD (AZ (BO (α:=Nat) (λk=>⟨142,[(0,.d (Mf g)),(4,(.own 2 0 g.length)),(5,(.d (AR cnt))),(15,(.own 9 0 cnt)),(94,(.d (fl a))),(95,(.d (AR a.length))),(96,(.d (AR k)))],[(2,[.rowD 3 1 (rowN g.length of)]),(9,[.rowD 3 1 (rowN cnt (De a k))])]⟩) (λk=>k<=a.length) (λk=>a.length - k) (0) (ζ _) (AY A [2,9] Z Z Ri) ?_))))));intro k hk;refine AC (AE (J (BB Z Z Z) (AD (AC (A9 Z (λQ=>?_) (λQ=>?_))))))
   .refine AX (AC (AZ (AC ?_)));have o:k<a.length:=BR Q;refine AE (fZ Z Z (J (BJ (k) Z Z (Z) (Og o) ch Z BU Z) (J (CI Z Z An Z) (AB Z Z (AB Z Z (AD (AE (fZ Z Z ?_))))))));refine fZ Z Z (fZ Z Z (J (DB (fh a k) Z Z (Z) (B k o) Z ch BU Z) (V (Xx Z Z Z Z Z (by rw [Dm];exact B k o) Dl Z BU) (AD (AE (J (Al Z Z (Ξ _ (by omega)) Z) (fZ Z Z (AD ?_))))))));exact ⟨k+1,o,by omega,AY A [2,9] Z (Z) Ri⟩
   .refine Aw (AC ?_);have hks:k=a.length:=by have:=Q;omega
    subst hks;refine AE (fZ Z Z (V (FH 10 Nw Z Z Z (by omega) r6 Z Z Z Z) (AB Z Z (AD (AC (AC (Qo 10 0 (hZ cnt (λ_=>none) (λ_=> [])) Z (by rw [Fe,List.length_replicate]) (T3 cnt) ⟨Wz _,KS _ _ _⟩ Z (Ht 40 Z Z Z ?_))))))));have hno:∀v,v<g.length ->De a a.length (of v)<cnt:=λv hv=>XK a (Nat.lt_of_le_of_lt (ζ _) (t.lt v hv)) y _ (Γ _) _;refine AE (fZ Z Z (J (JZ Z (χ ..) dd Z) (fZ Z Z (AD (AZ (BO (α:=Nat×MF×(Nat ->Hd)) (λq=>⟨142,[(0,.d (Mf g)),(4,(.own 2 0 g.length)),(15,(.own 9 0 cnt)),(18,(.own 10 0 cnt)),(109,(.d (AR g.length))),(110,(.d (AR q.1)))],[(2,[.rowD 3 1 (rowN g.length (lK of (λv=>De a a.length (of v)) q.1))]),(9,[.rowD 3 1 (rowN cnt (De a a.length))]),(10,[.rowD 28 1 (hZ cnt q.2.2 (GD (λv=>De a a.length (of v)) q.1))]),(40,[.multi q.2.1])]⟩) (λq=>q.1<=g.length/\NH q.2.1 cnt q.2.2 (GD (λv=>De a a.length (of v)) q.1)) (λq=>g.length - q.1) ((0,λ_=>none,λ_=>none)) (⟨ζ _,NH.zero _⟩) (AY A [2,9,10,40] Z Z No) ?_))))));rintro ⟨i,M,G⟩ ⟨hi,z⟩;dsimp only at hi z⊢;refine AC (AE (J (BB Z Z Z) (AD (AC (A9 Z (λE=>?_) (λE=>?_))))))
    .refine AX (AC (AZ (AC ?_)));have l:i<g.length:=BR E;have s:=t.lt i l;have w:=Yp (λv=>De a a.length (of v)) i;have L:=cJ of (λv=>De a a.length (of v)) i;have u:=hno i l;have hofi:lK of (λv=>De a a.length (of v)) i i=of i:=θ (jk _);have hofj:lK of (λv=>De a a.length (of v)) (i+1) i=De a a.length (of i):=ϱ (io _);have hgo:=Na (f:=lK of (λv=>De a a.length (of v)) i) l;have O:=Na (f:=lK of (λv=>De a a.length (of v)) (i+1)) l;rw [hofi] at hgo;have Y:=Na (f:=De a a.length) s
     first | dsimp only at w L | skip
     obtain ⟨x,W⟩:∃x,De a a.length (of i)=x:=⟨_,Z⟩
     rw [hofj,W] at O;rw [W] at w L u Y;have hln:=cA (λv=>De a a.length (of v)) i x;refine AE (fZ Z Z (AB Z Z (AD ?_)));refine AC (AE (fZ Z Z (fZ Z Z (fZ Z Z (fZ Z Z (fZ Z Z (J (DB (i) Z Z (Z) (l) Z ch BU Z) (J (EA Z Z (hgo) Z An Z) ?_))))))));refine J (DB (of i) Z Z (Z) (s) Z ch BU Z) (J (EA Z Z (Y) Z An Z) (J (DB (i) Z Z (Z) (l) Z ch BU Z) (V (Xx Z Z Z Z Z (by rw [Dm];exact l) (Dl.trans (by rw [L])) Z BU) (AD (CZ [[],[],[],[1,2],[1,2,3],[],[],[],[6,7],[6,7,8],[5,6,7,8,9],[5,6,7,8,9,10],[],[12],[5,6,7,8,9,10,11,12,13],rg 15,rg 16] mixed Z (CG (Av 18 Z Z (Av 4 Z Z ?_))))))));refine Av 19 Z Z (Ao [124,125] [2] Z Z (λ_=>Ae (DB (i) Z Z (Z) (l) Z ch BU Z)) (Ao [126] [2] Z Z (λ_=>Ae (EA Z Z (O) Z An Z)) (Av 18 Z Z (Av 4 Z Z (Av 19 Z Z (Ao [129,130] [2] Z Z (λ_=>Ae (DB (i) Z Z (Z) (l) Z ch BU Z)) (Ao [131] [2] Z Z (λ_=>Ae (EA Z Z (O) Z An Z)) (Ao [128,132] [10] Z Z (λ_=>Ae (DB (x) Z Z (Z) (u) Z ea DD Z)) ?_))))))));refine Ao [133] [10] Z Z (λ_=>Ae (EA Z Z (KJ u) Z BL Z)) (Av 19 Z Z (HC [135] [21] [(136,_)] Z Z (λ_=>HD (C5 21 BP Z Z Z Z Z Z Z Z)) (.inr ⟨136,_,Z,Z,Z,Z,Z⟩) Z Z Z Z Z (HC [134,136] [60,40,21] [(137,_)] Z Z (λ_=>HD (HT 134 60 40 (z.at_ x u) Z Z (by rw [χ]) Z Z Z Z Z (F2 (emb:=AR) (GD (λv=>De a a.length (of v)) i x) [i] Z Z Z Z Z Z Z Z BP (by show ((GD (λv=>De a a.length (of v)) i x).length+1)*8<=_;omega) Z Z Z Z))) (.inr ⟨137,_,Z,Z,Z,Z,Z⟩) Z Z Z Z Z (CB 15 Z Z Z (Ad 16 Z Z (FX 137 60 40 A Z Z Z (by rw [χ]) (by simp) Z Z Z Z Z Z Z (λ_ _=>rfl) λb c hb hc=>(J (DB (x) Z Z (Z) (u) Z ea DD Z) (AD ⟨Z,?_⟩))))))));refine Ad 17 Z Z (V (Xx Z Z Z Z Z (by rw [Fe];exact u) (Sq (h:=some (b,c))) Z DD) (AD ⟨Z,?_⟩));refine CM (AE (J (Al Z Z (Ξ _ (by omega)) Z) (fZ Z Z (AD ?_))));exact ⟨(i+1,BZ (Be M (G x)) b (.row 3 1 c ((GD (λv=>De a a.length (of v)) i x++ [i]).map AR)),BE G x (some (b,c))),⟨l,by have:=z.app u hb hc;rw [w] at this;exact this⟩,by show g.length - (i+1)<g.length - i;omega,AY A [2,9,10,40] Z (by rw [w];rfl) No⟩
    .refine Aw (AC ?_);have N:i=g.length:=by have:=E;omega
     subst N;have hof:rowN g.length (lK of (λv=>De a a.length (of v)) g.length)=((List.range g.length).map λv=>De a a.length (of v)).map AR:=by rw [gZ];exact gi λv hv=>gG AR (ϱ (Ψ.1 hv))
     rw [hof];refine fF 10 0 40 ((dZ cnt (GD (λv=>De a a.length (of v)) g.length)).map fl) Z Z Z Z Z (by rw [χ,Un,Fe]) z.melt ⟨KS _ _ _,cF _⟩ Z (LL (emb:=AR) 4 2 ((List.range g.length).map λv=>De a a.length (of v)) Z Z Z (by simp) Z Z Z (AE (fZ Z Z (fZ Z Z (AB Z Z (AB Z Z (AD (A4 ?_))))))));exact ⟨_,[10],_,A2 Z,Z,Z,of,cnt,t,by unfold gR;rw [C],by unfold gR;rw [C]⟩
noncomputable def mO (g:List (List Nat)):(Nat ->Nat)×Nat:=Classical.epsilon λp=>CN g.length (fe g) p.1 p.2
noncomputable def jy (g:List (List Nat)):Nat ->Nat:=(mO g).1
noncomputable def ib (g:List (List Nat)):Nat:=(mO g).2
theorem Ry (i:GB g) {cnt:Nat} (h:CN g.length (fe g) a cnt):CN g.length (fe g) (jy g) (ib g)/\cnt=ib g/\∀v,v<g.length ->a v=jy g v:=by
 have b:CN g.length (fe g) (mO g).1 (mO g).2:=Classical.epsilon_spec (p:=λp:(Nat ->Nat)×Nat=>CN g.length (fe g) p.1 p.2) ⟨(a,cnt),h⟩;exact ⟨b,mS h b λv f y c=>i.suc f c⟩
noncomputable def gP (g:List (List Nat)):List (List Nat):=dZ (ib g) (GD (jy g) g.length)
noncomputable def uz (g:List (List Nat)):List Nat:=(List.range g.length).map (jy g)
theorem Vc {b:Nat ->Nat} {n:Nat} (h:∀v,v<n ->a v=b v):GD a n=GD b n:=by grind [GD,jj]
theorem US (g:List (List Nat)) (b:GT g):AO prog 134 [.d (Mf g)] [] λr h=>r= .tup [.own 10 0 (ib g),.d (fl (uz g))]/\h=[(10,[.rowD 28 1 ((gP g).map fl)])]:=
 (UT g b).mono λr h ⟨c,cnt,a,j,o⟩=>by
  obtain ⟨_,s,f⟩:=Ry b.gb (WL b a);have k:=Vc f;have l:(List.range g.length).map (λv=>gR g c cnt (c v))=uz g:=gi λv i=>f v (Ψ.1 i);rw [j,o,k,l,s];exact ⟨Z,Z⟩
def nU (g:List (List Nat)):List (List Int):=g.map (List.map Int.ofNat)
theorem o8 (g:List (List Nat)):nz (nU g)=Mf g:=by simp [*,nU]
theorem KA (g:List (List Nat)):(nU g).length=g.length:=by simp [nU]
theorem W5 (g:List (List Nat)):∀i,i<=g.length ->LT (nU g) i=J8 g i
 | 0,_=>rfl
 | i+1,b=>by
  have a:=W5 g i (by omega);rw [LS (by rw [KA];omega),a];unfold J8;rw [hU,Ω,jY,List.map_singleton,List.sum_singleton,Fa (by omega)]
  simp [nU]
theorem qi (a:GT g):U5 (nU g)=0:=by
 have j:=a.gb.n;have i:=a.tot;refine (tS (by rw [KA];omega) (by rw [KA,W5 g _ (Γ _)];omega) ?_).symm;rintro ⟨l,h,x,c,k⟩;obtain ⟨m,f,rfl⟩:=Θ.1 h;obtain ⟨y,b,rfl⟩:=Θ.1 c;have:=a.gb.lt m f y b
 grind [KA]
theorem kj {l:List Nat} (h:l∈g):l.length<=J8 g g.length:=by
 obtain ⟨i,a,rfl⟩:=ii.1 h
 have b:J8 g (i+1)=J8 g i+g[i].length:=by
  grind [J8,hU,Fa]
 have:=Pr g (i:=i+1) (j:=g.length) (by omega);omega
theorem ma (g:List (List Nat)) (a:GT g):AK prog 133 [.d (Mf g)] (AF 0):=by
 have i:=a.gb.n;have f:=a.tot
 have h:=ed (nU g) (by rw [KA];omega) λl c=>by
  obtain ⟨m,b,rfl⟩:=Θ.1 c;rw [χ];have:=kj b;omega
 rw [o8,qi a] at h;exact h
theorem Rz (g:List (List Nat)) (a:GT g):AO prog 80 [.d (Mf g)] [] λr b=>r= .tup [.own 10 0 (ib g),.d (AF 0)]/\b=[(10,[.rowD 28 1 ((gP g).map fl)])]:=by
 refine At func80 Z Z ntmps80 Z Z Z λF c=>?_;refine AC (AE (AB Z Z (AB Z Z (AD (AC (AC (AE (fZ Z Z ?_))))))));refine J (As (ma g a) Z Z) (AB Z Z (AD (AC (AE (fZ Z Z (J (Cw Z Z Z) (AD (Cm Z (gV (by decide)) ?_))))))));refine AX (AC (AE (fZ Z Z (V (FE (US g a) Z [10] ⟨Z,trivial⟩ Z Z Z Z Z Z Z Z Z) (fZ Z Z (J (DC Z Z Z) (J (DC Z Z Z) (AB Z Z ?_))))))));refine AB Z Z (AD (AC (AE (fZ Z Z (AB Z Z (AB Z Z (AD (A4 ?_))))))));exact ⟨_,[10],_,A2 Z,Z,Z,Z,Z⟩
theorem bZ (a:Nat ->List Nat) (v:Nat):∃y,(Rh a v y/\Rh a y v)/\∀z,Rh a v z/\Rh a z v ->y<=z:=oE (λu=>Rh a v u/\Rh a u v) v v ⟨.refl v,.refl v⟩ (Γ _)
noncomputable def iA (suc:Nat ->List Nat) (v:Nat):Nat:=Classical.choose (bZ suc v)
theorem Gj (a:Nat ->List Nat) (v:Nat):(Rh a v (iA a v)/\Rh a (iA a v) v)/\∀z,Rh a v z/\Rh a z v ->iA a v<=z:=Classical.choose_spec (bZ a v)
theorem Wp {a:Nat ->List Nat} {i j:Nat}:iA a i=iA a j↔Rh a i j/\Rh a j i:=by
 obtain ⟨c,g⟩:=Gj a i;obtain ⟨b,f⟩:=Gj a j
 constructor
 .intro e;rw [<-e] at b;exact ⟨c.1.trans b.2,b.1.trans c.2⟩
 .intro h;exact Nat.le_antisymm (g _ ⟨h.1.trans b.1,b.2.trans h.2⟩) (f _ ⟨h.2.trans c.1,c.2.trans h.1⟩)
theorem bL (n:Nat) (a:Nat ->List Nat):∃l cnt,hQ n a l cnt:=by
 let b:=(List.range n).filter λv=>decide (iA a v=v)
 have o:b.Nodup:=List.nodup_range.filter _;have g:∀v,iA a v<=v:=λv=>(Gj a v).2 v ⟨.refl v,.refl v⟩;have h:∀v,iA a (iA a v)=iA a v:=λv=>Wp.2 ⟨(Gj a v).1.2,(Gj a v).1.1⟩;have k:∀v,v<n ->iA a v∈b:=λv f=>gS.2 ⟨Ψ.2 (Nat.lt_of_le_of_lt (g v) f),gQ (h v)⟩;refine ⟨λv=>b.idxOf (iA a v),b.length,⟨λv f=>kJ (k v f),λi j r t=>?_,λc s=>?_,?_⟩⟩
 .rw [<-Wp]
  constructor
  .intro e;have x:=List.getElem_idxOf (kJ (k i r))
   grind
  grind
 .obtain ⟨w,u⟩:=gS.1 (ξ s)
  grind
 grind
theorem eR (g:List (List Nat)) (a:GT g):CN g.length (fe g) (jy g) (ib g):=by
 obtain ⟨b,cnt,h⟩:=bL g.length (fe g);exact (Ry a.gb (WL a h)).1
end Go.Proofs.YteifpcnphnhaoaaGreat
namespace Go.Proofs.YteifpcnphnhaoaaGreat
open Go.RowKit Go.Shelf
variable {g:List (List Nat)} {x:List Nat} {a:fj} {c:List D} {M:MF} {i:Nat} {f:List AT} {E:List (AI×Nat)} {h:D} {j k o s:Nat} {t u:Int} {w:List Int} {y z:Nat} {N:MF} {A:Nat}
set_option maxRecDepth 100000
def K3 (g:List (List Nat)) (i j:Nat):Prop:=Rh (fe g) i j/\Rh (fe g) j i
theorem QU (g:List (List Nat)) (i:Nat):K3 g i i:=⟨.refl i,.refl i⟩
theorem ZF (h:K3 g i s):K3 g s i:=⟨h.2,h.1⟩
theorem OU (h:K3 g i s) (a:K3 g s A):K3 g i A:=⟨h.1.trans a.1,a.2.trans h.2⟩
noncomputable def gf (g:List (List Nat)) (i:Nat):List Nat:=(List.range g.length).filter λj=>dec (K3 g i j)
noncomputable def iu (g:List (List Nat)):List Nat:=(List.range g.length).filter λi=>dec (∀j,j<i ->¬K3 g i j)
noncomputable def fw (g:List (List Nat)):List (List Nat):=gv ((iu g).map (gf g))
theorem UZ:s∈gf g i↔s<g.length/\K3 g i s:=by
 unfold gf;rw [gS,Ψ,FQ]
theorem Oh:i∈iu g↔i<g.length/\∀j,j<i ->¬K3 g i j:=by
 unfold iu;rw [gS,Ψ,FQ]
theorem mX (h:K3 g i s):gf g i=gf g s:=by grind [gf,FQ,OU,ZF]
theorem UY (g:List (List Nat)) (i:Nat):(gf g i).Pairwise (· < ·):=List.Pairwise.sublist iw List.pairwise_lt_range
theorem Tz (g:List (List Nat)):(iu g).Pairwise (· < ·):=List.Pairwise.sublist iw List.pairwise_lt_range
theorem SD (h:i∈iu g):gX (gf g i)=(i:Int):=by
 obtain ⟨k,j⟩:=Oh.1 h;have b:i∈gf g i:=UZ.2 ⟨k,QU g i⟩;have c:=UY g i;unfold gX
 cases hc:gf g i with
 | nil=>rw [hc] at b;cases b
 | cons a t=>
  rw [hc] at b c;show ((a:Nat):Int)=_;have f:a∈gf g i:=by rw [hc];exact iG
  rcases Υ.1 b with e | e
  .rw [e]
  .have:=List.rel_of_pairwise_cons c e;exact absurd (UZ.1 f).2 (j a this)
theorem lk (i:Nat) (a:i<g.length):∃k,k∈iu g/\K3 g i k:=by
 induction i using Nat.strongRecOn with
 | ind i b=>
  by_cases h:∀j,j<i ->¬K3 g i j
  .exact ⟨i,Oh.2 ⟨a,h⟩,QU g i⟩
  grind [OU]
theorem TO (c:GT g) {v:Nat} (b:v<g.length):GD (jy g) g.length (jy g v)=gf g v:=by
 have f:=eR g c;unfold GD gf
 exact jj λw a=>by
  rw [ju,decide_eq_true_iff,FQ];rw [eq_comm];exact f.scc v w b (Ψ.1 a)
theorem K7 {l:List (List Nat)}:x∈gv l↔x∈l/\2<=x.length:=by
 unfold gv Hm;rw [gS];simp
theorem UV (b:GT g):x∈gP g↔∃i,i∈iu g/\x=gf g i:=by
 have f:=eR g b;unfold gP dZ;rw [Θ]
 constructor
 .rintro ⟨c,j,rfl⟩;obtain ⟨v,k,rfl⟩:=f.use c (Ψ.1 j)
  grind [lk,TO,mX]
 .rintro ⟨i,h,rfl⟩;have a:=(Oh.1 h).1;exact ⟨jy g i,Ψ.2 (f.lt i a),TO b a⟩
theorem Oz (f:GT g):(gP g).Nodup:=by
 have h:=eR g f;unfold gP dZ;rw [List.Nodup,iW];refine nR (R:=λa b=>a<b) (λ{a b} j k i e=>?_) List.pairwise_lt_range;obtain ⟨v,c,rfl⟩:=h.use a (Ψ.1 j);have l:v∈GD (jy g) g.length (jy g v):=by unfold GD;rw [gS];exact ⟨Ψ.2 c,by simp⟩
 grind [GD]
theorem U3 (a:GT g):x∈fw g↔x∈gv (gP g):=by grind [fw,K7,UV]
theorem Mk (g:List (List Nat)):(fw g).Pairwise λa b=>gX a<gX b:=by grind [fw,gv,nR,Tz,SD]
theorem eZ {y:List Nat} (b:x∈fw g) (a:y∈fw g) (h:gX x=gX y):x=y:=by
 unfold fw at b a;obtain ⟨i,f,rfl⟩:=Θ.1 (K7.1 b).1;obtain ⟨j,c,rfl⟩:=Θ.1 (K7.1 a).1;rw [SD f,SD c] at h;rw [Int.ofNat_inj.1 h]
theorem U4 (f:GT g) (c:List (List Nat)) (i:c.Perm (gv (gP g))) (o:c.Pairwise λa b=>¬gX b - gX a<0):c=fw g:=by
 have j:c.Nodup:=i.nodup_iff.2 (List.Nodup.sublist iw (Oz f));have k:∀x,x∈c↔x∈fw g:=λx=>by rw [i.mem_iff,U3 f]
 refine DP (R:=λa b=>gX a<gX b) (λx h=>by omega) (λx y z h t=>by omega) ?_ (Mk g) k;refine nR (λ{a b} s r l=>?_) (List.Pairwise.and o j)
 grind [eZ]
theorem m8:Go.Sort.SWO (ltOf λa b:List Nat=>gX a - gX b):=by
 refine ⟨λx=>?_,λx y z h c=>?_,λx y z h c=>?_⟩
 all_goals (grind [ltOf])
theorem AO.fnArgA {P:Program} {f g:FuncId} {x:AV} {H:Hp} {R:AV ->Hp ->Prop} (h:AO P f [x,.d (.fn g [] [])] H R):AO P f [x,.d (.raw (.func (.func g) #[] #[]))] H R:=
 ⟨h.1,λF r vs y w k u t o=>h.2 F r vs y w k u t λi a v j l=>by
  rcases i with _ | _ | i
  .exact o 0 _ v j l
  .have e:a= .d (.fn g [] []):=by simpa using j.symm
   subst e;have:=o 1 _ v Z l
   cases this with
   | d s=>
    cases s with
    | raw _=>exact .d (.fn (us:=[]) (vs:=[]) Z Z (λi c v b=>by simp at b) λi c v b=>by simp at b)
  .simp at j⟩
theorem HE.l {N:MF} (h:HE M z w):HE (fz M N) z w:=by
 obtain ⟨m,c,a⟩:=h;exact ⟨m,I1 c,I1 a⟩
theorem HE.r {l:List Int} (j:∀i m a,M i=some m ->N i=some a ->False) (h:HE N z l):HE (fz M N) z l:=by
 obtain ⟨m,g,f⟩:=h
 have c:∀{i a},N i=some a ->M i=none:=λ{i a} h=>by
  cases e:M i with
  | none=>rfl
  | some x=>exact (j i _ _ e h).elim
 exact ⟨m,K4 (c g) g,K4 (c f) f⟩
theorem HE.put {g:Nat} {o:Ak} (h:HE N z w) (f:N g=none):HE (BZ N g o) z w:=by
 obtain ⟨m,c,a⟩:=h;exact ⟨m,by rw [Hu (λe=>by rw [e,f] at c;cases c)];exact c,by rw [Hu (λe=>by rw [e,f] at a;cases a)];exact a⟩
abbrev vH:FuncId:=79
def tC (L G:List Int) (id:Int):Bool:=decide (id∈L) && !decide (id∈G)
theorem m7 {j i g h:Nat} {L G:List Int} (b:N j=some (.cells 124 [PW g])) (a:N i=some (.cells 124 [PW h])) (k:HE N g L) (l:HE N h G) (id:Int):
  AO prog vH [.d (AF id),.d (pD j 0),.d (pD i 0)] [(41,[.multi N])] λr o=>r= .d (Ah (tC L G id))/\o=[(41,[.multi N])]:=by
 refine At func79 Z Z ntmps79 Z Z Z λF s=>(AC (AE ?_));refine AB Z Z (AD (AC (AE (J (EE (f:=41) Z Z b Z TR Z) (fZ Z Z (V (Uy (EG k id) Z [41] ⟨Z,trivial⟩ Z Z Z Z Z Z Z Z Z) (fZ Z Z (C3 8 Z (λc=>?_) (λc=>?_)))))))));refine AQ Z Z Z (J (EE (f:=41) Z Z a Z TR Z) (AQ Z Z Z (fZ Z Z (AQ Z Z Z (V (Uy (EG l id) Z [41] ⟨Z,trivial⟩ Z Z Z Z Z Z Z Z Z) (AQ Z Z Z (J (Jw Z Z) (J (B5 Z Z Z Z) ?_))))))))
 rotate_left
 refine AL Z Z Z Z (AL Z Z Z Z (AL Z Z Z Z (AL Z Z Z Z (J (Bk Z Z Z Z) ?_))))
 all_goals
  refine AB Z Z (AD (A4 ?_));exact ⟨_,[41],_,A2 Z,Z,Z,by {unfold tC;simp [c]},Z⟩
theorem qO (h:E.length<=1000):GT (i8 f E):=by
 have a:∀l∈i8 f E,l.length<=1000/\∀x∈l,x<E.length:=λl a=>by
  obtain ⟨e,_,rfl⟩:=Θ.1 a;exact ⟨gJ (W4 _ _ _ _) h,o7⟩
 refine ⟨⟨by rw [Hc];omega,λl b=>by have:=(a l b).1;omega,λl b x g=>by rw [Hc];exact (a l b).2 x g⟩,?_⟩
 have c:∀i,i<=(i8 f E).length ->J8 (i8 f E) i<=i*1000:=λi k=>by
  induction i with
  | zero=>exact ζ _
  | succ i j=>
   grind [Fa,J8,hU]
 grind [Hc]
noncomputable def ia (p:fj):List (AI×Nat):=((BK p.it).filter λi=>tC (fo p) (DV p) i.id).map λi=>(i,0)
theorem dl (p:fj):(ia p).map Prod.fst=(BK p.it).filter λi=>tC (fo p) (DV p) i.id:=by unfold ia;rw [gZ];exact List.map_id _
noncomputable def jb (rs:List AT) (E:List (AI×Nat)):List (List Int):=(fw (i8 rs E)).map (BC E)
theorem m9 (h:x∈fw g):2<=x.length/\x.length<=g.length/\∀k∈x,k<g.length:=by
 obtain ⟨b,a⟩:=K7.1 h
 grind [gf]
theorem eY (g:List (List Nat)):(fw g).length<=g.length:=by grind [fw,cq,iu]
theorem Xm (a:GT g) (h:x∈gP g):x.length<=g.length/\∀k∈x,k<g.length:=by grind [UV,gf]
theorem mR (a:GT g):ib g<=g.length:=by
 obtain ⟨b,cnt,h⟩:=bL g.length (fe g);have:=(Ry a.gb (WL a h)).2.1;have:=h.le;omega
theorem UW:(gP g).length=ib g:=by unfold gP;rw [Un]
theorem tK {l:List Nat} (h:0<l.length) (a:∀k∈l,k<y):l.getD 0 0<y:=by simp_all
theorem eX (a:GT g):(fw g).length=(gv (gP g)).length:=by
 have c:(fw g).Nodup:=by
  grind [List.Pairwise.imp,Mk]
 have b:(gv (gP g)).Nodup:=List.Nodup.sublist iw (Oz a);exact ((List.perm_ext_iff_of_nodup c b).2 λx=>U3 a).length_eq
theorem QB {b:List Ac} {a:List AI}:∀(f:Nat) (c:Nat ->Bool) (x:Int),x∈Mz b a f c ->∃i,i<a.length/\c i=true/\x=(a.getD i Af).id
 | 0,_,_,h=>nomatch h
 | f+1,c,x,h=>by
  cases hn:I0 b a c with
  | none=>rw [JB hn] at h;cases h
  | some i=>
   rw [JA hn] at h;obtain ⟨r,k,_⟩:=OT hn;rcases Υ.1 h with e | h
   .exact ⟨i,r,k,e⟩
   .obtain ⟨j,o,g,l⟩:=QB f _ x h;refine ⟨j,o,?_,l⟩;unfold BF at g
    by_cases e:j=i
    .rw [e];exact k
    .simpa [e] using g
theorem OA {b:List Ac} {a:List AI} (g:(a.map AI.id).Nodup):∀(f:Nat) (k:Nat ->Bool),(Mz b a f k).Nodup
 | 0,_=>List.nodup_nil
 | f+1,k=>by
  cases hn:I0 b a k with
  | none=>rw [JB hn];exact List.nodup_nil
  | some i=>
   rw [JA hn];obtain ⟨t,u,_⟩:=OT hn;refine jv.2 ⟨λh=>?_,OA g f _⟩;obtain ⟨j,s,r,o⟩:=QB f _ _ h;have l:j≠i:=λe=>by subst e;unfold BF at r;simp at r
   rw [Φ,Φ,ω t,ω s] at o;have e:(a.map AI.id)[i]'(by simpa using t)=(a.map AI.id)[j]'(by simpa using s):=by rw [gq,gq];exact o
   rw [List.Nodup,iS] at g;rcases Nat.lt_trichotomy i j with c | c | c
   .exact g i j _ _ c e
   .exact l c.symm
   .exact g j i _ _ c e.symm
theorem Tv (b:Az a=0):(DV a).Nodup:=OA (GL b) _ _
theorem Z0 (b:Fw a):(DV a).length<=30:=by
 have h:=Sn (ros:=DT a) (its:=fk a) (fk a).length λ_=>true;have c:=Do a;have:=b.i;unfold DV;omega
set_option maxHeartbeats 4000000 in
theorem Zc (p:fj) (B:Fw p) (v:Az p=0):AK prog 30 [.d (Bq p)] (.tup [XV (jb (ft p) (ia p)),AF 0]):=by
 have hi30:=B.i;have hlk:=Jk p B v;have hgk:=Tu p B v;have hO:fk p=BK p.it:=ϱ v;have hll:=Lt v;have hgn:(DV p).Nodup:=Tv v;have hgl:(DV p).length<=30:=Z0 B;refine At func30 Z Z ntmps30 Z Z Z λF Y=>?_;refine AC (AE (V (Bo 1 Z Z Z Z Z Z Z) (AB Z Z (AB Z Z (AD (AC (AE (J (Ay Z Z Bl Z Z Z) ?_))))))));refine J (As (hlk) Z Z) (fZ Z Z (J (Dc Z Z Z) (J (Dc Z Z Z) (AB Z Z (AB Z Z (AD (AC (AC ?_))))))));refine AE (fZ Z Z (J (Cw Z Z Z) (AD (Cm Z (gV (by decide)) (AX (AC (AE (J (Ay Z Z Bl Z Z Z) ?_))))))));refine J (As (hgk) Z Z) (fZ Z Z (J (Dc Z Z Z) (J (Dc Z Z Z) (AB Z Z (AB Z Z (AD (AC (AC ?_))))))));refine AE (fZ Z Z (J (Cw Z Z Z) (AD (Cm Z (gV (by decide)) (AX (AC (AE (fZ Z Z ?_))))))));refine C6 (VA (Gd (fo p) (I7 v) (by omega)) Z [41] ⟨Z,trivial⟩ Z Z Z Z (λr z ⟨b,N,i,h,_⟩=>by subst i h;exact ⟨Z,Z,Z⟩) Z) Z ?_;rintro _ ⟨r,z,⟨bl,N1,i,h,hWl⟩,rfl⟩;subst i h;refine fZ Z Z ?_;refine C6 (VA ((Gd (DV p) hgn (by omega)).byX [(41,42)] Z) Z [42] ⟨Z,trivial⟩ Z Z Z Z (λr z ⟨r0,H0,⟨b,N,i,h,_⟩,e3,e4⟩=>by subst e3 e4 i h;exact ⟨Z,Z,Z⟩) Z) Z ?_;rintro _ ⟨r,z,⟨r0,H0,⟨bg,N2,i,h,hWg⟩,e3,e4⟩,rfl⟩;subst e3 e4 i h;refine V (By 7 aK Z Z Z Z) (V (By 8 aK Z Z Z Z) (V (B3 Z Z Z Z Z Z Z ac) (V (B3 Z Z Z Z Z Z Z ac) (AD (AC (mz 42 41 Z Z Z Z Z Z Z Z Z λhdj=>?_))))));have Q:=hWl.l (N:=N2);have U:=HE.r hdj hWg;refine fJ (ds:=[PW bl]) 7 7 41 Y Z Z Z Z Z Z Z Z Z Z Z (λ_=>rfl) λb7 L=>?_;have P:=Q.put (o:= .cells 124 [PW bl]) L;have S:=U.put (o:= .cells 124 [PW bl]) L;refine fJ (ds:=[PW bg]) 8 8 41 Y Z Z Z Z Z Z Z Z Z Z Z (λ_=>rfl) λb8 s=>?_;have O:=P.put (o:= .cells 124 [PW bg]) s;have R:=S.put (o:= .cells 124 [PW bg]) s;have hq7:=Fu (BZ (fz N1 N2) b7 (.cells 124 [PW bl])) b8 (.cells 124 [PW bg]);refine AE (J (Ay Z Z Bl Z Z Z) (J (Xy (ds:=[]) (es:=[pD b7 0,pD b8 0]) Z Z Z Z Z) ?_));refine C6 (VA (MI p v B vH [pD b7 0,pD b8 0] _ (tC (fo p) (DV p)) (m7 (by rw [Hu (λe=>by rw [<-e,Fu] at s;cases s)];exact Fu _ _ _) hq7 O R)) Z [41,40] ⟨Z,Z,trivial⟩ Z Z Z Z (λr z ⟨E,M,i,h,_⟩=>by subst i h;exact ⟨Z,Z,Z⟩) Z) Z ?_;rintro _ ⟨r,z,⟨E,M,i,h,hR,u⟩,rfl⟩;subst i h;refine AB Z Z (AD (AC ?_));have W:E.map Prod.fst=(ia p).map Prod.fst:=by rw [u,hO,dl]
 have K:=Z1 (rs:=ft p) (E:=E) (E':=ia p) W;have hn30:E.length<=30:=by have C:(E.map Prod.fst).length<=(BK p.it).length:=(by rw [u,hO];exact gz _ _);rw [χ,aA] at C;omega
 have haf:∀e∈E,e.1.af.length<=100000:=λe he=>by have C:e.1∈E.map Prod.fst:=jW he;rw [u,hO] at C;have:=(B.x _ ((Zs p.it).mem_iff.1 (gS.1 C).1)).2.2;omega
 have f:GT (i8 (ft p) E):=qO (by omega)
 obtain ⟨g,t⟩:∃g,i8 (ft p) E=g:=⟨_,Z⟩
 have hgl2:g.length=E.length:=by rw [<-t,Hc]
 have G:=li E hR (by omega) haf;rw [t] at f G;refine AE (fZ Z Z (V (FE G Z [40] ⟨Z,trivial⟩ Z Z Z Z Z Z Z Z Z) ?_));refine C6 (VA (Rz g f) Z [10] ⟨Z,trivial⟩ Z Z Z Z (λr z ⟨i,h⟩=>by subst i h;exact ⟨Z,Z,Z⟩) Z) Z ?_;rintro _ ⟨r,z,⟨i,h⟩,rfl⟩;subst i h;refine fZ Z Z (J (DC Z Z Z) (J (DC Z Z Z) (AB Z Z (AB Z Z (AD ?_)))));refine AC (AC (AE (fZ Z Z (J (Cw Z Z Z) (AD (Cm Z (gV (by decide)) (AX (AC ?_))))))));have hcl:ib g=(gP g).length:=UW.symm;have hca:∀c∈gP g,c.length<=100000:=λc hc=>by have:=(Xm f hc).1;omega
 have hcn30:(gP g).length<=30:=by rw [UW];have:=mR f;omega
 rw [hcl]
 obtain ⟨D,hjk⟩:∃D,(List.replicate ((gP g).length - (gv (gP g)).length) none).map eO=D:=⟨_,Z⟩
 have H:=(q6 (gP g) (by omega) hca).fnArgA;rw [hjk] at H;have j:∀x∈gv (gP g),0<x.length/\x.getD 0 0<=100000:=λx A=>by have C:=K7.1 A;have h2:=(Xm f C.1).2;have h3:=tK (by omega) h2;exact ⟨by omega,by omega⟩
 refine AE (fZ Z Z (V (FE H Z [10] ⟨Z,trivial⟩ Z Z Z Z Z Z Z Z Z) (AB Z Z (AD (AC (AE ?_))))));refine fZ Z Z (V (aq p9 func84 Z Z (λ_=>rfl) (λa b=>gX a - gX b) m8 (gv (gP g)) (fw g) D (by have:=cq (gP g);omega) (λx A y hy=>m6 x y (j x A).1 (j y hy).1 (j x A).2 (j y hy).2) (λys g1 g2=>U4 f ys g1 g2) Z Z Z MG Z Z Z Z Z) (AD (AC (AE (AB Z Z (AD (AC (AC ?_))))))));have I:(gv (gP g)).length=(fw g).length:=(eX f).symm;rw [I];have hc30:(fw g).length<=30:=by have:=eY g;omega
 refine AE (fZ Z Z (J (Qp Z ea Z) (fZ Z Z (AD (AZ (NG 11 11 Nw Z Z Z Z (BO (α:=Nat×List (List Int)) (λq=>⟨64,[(9,(.d (.sl none (E.map Cr)))),(11,(.own 11 0 q.2.length)),(50,(.own 10 0 (fw g).length)),(51,(.d (AF ((fw g).length:Int)))),(52,(.d (AF (q.1:Int))))],[(11,[.rowD 28 1 (q.2.map Ga)]),(10,[.rowD 28 1 ((fw g).map fl++D)])]⟩) (λq=>q.1<=(fw g).length/\q.2=((fw g).take q.1).map (BC E)) (λq=>(fw g).length - q.1) ((0,[])) (⟨ζ _,Z⟩) (AY Y [11,10] Z Z F0) ?_)))))));rintro ⟨k,T⟩ ⟨hk,X⟩;dsimp only at hk X⊢;refine AC (AE (J (BB Z Z Z) (AD (AC (A9 Z (λw=>?_) (λw=>?_))))))
 .refine AX (AC (AZ (AC ?_)));have l:k<(fw g).length:=BR w;obtain ⟨hx2,hxl,hxm⟩:=m9 (ξ l);have hTl:T.length<=30:=by rw [X,χ,ϖ];omega
  refine AE (J (DB (k) Z Z (Z) (l) Z ea DD Z) (J (EA Z Z ((show ((fw g).map fl++D)[k]? =some (fl (fw g)[k]) from by rw [oW (by rw [χ];exact l)];exact A5 l)) Z BL Z) ?_));refine AB Z Z (AD (AE (fZ Z Z (fZ Z Z (fZ Z Z ?_)))));refine J (As (tE E (fw g)[k] (λx A=>by have:=hxm x A;omega) (by omega)) Z Z) (V (C5 30 Nw Z Z Z Z Z Z Z Z) (V (F2 (T) ([BC E (fw g)[k]]) Z Z Z Z Z Z Z Z Nw (by simp only [ς];omega) Z Z Z Z) (AB Z Z (AD (AE (J (Al Z Z (AM (k+1) (by omega)) Z) (fZ Z Z (AD ?_))))))));exact ⟨(k+1,T++ [BC E (fw g)[k]]),⟨l,by show _=((fw g).take (k+1)).map _;rw [ψ l,Ω,X];rfl⟩,by show (fw g).length - (k+1)<(fw g).length - k;omega,AY Y [11,10] Z (Z) F0⟩
 .refine Aw (AC ?_);have hke:k=(fw g).length:=by have:=w;omega
  refine LL (emb:=Ga) 11 11 T Z Z Z Z Z Z Z ?_;rw [show T=jb (ft p) (ia p) by rw [X,hke,gc,<-t];unfold jb;rw [K.1,K.2.1]];refine AE (fZ Z Z (AB Z Z (AB Z Z (AD (A4 ?_)))));exact ⟨_,[],[],A2 Z,Z,Z,Z,Z⟩
abbrev RT (p:fj):List D:=[.sl none (p.ro.map Bv),.sl none (p.it.map Ag)]
theorem qs (s:M o=some (.cells 39 (RT a))) (l:M k=some (.cells 32 c)) (A:c.length=5) (i:M j=some (.cells 33 [AF u])) (w:j≠k) (y:h.one=true) (z:AK prog 39 [.d (Bq a)] (.tup [h,AF t])):
  AO prog 41 [.d (pD o 0),.d (pD k 0),.d (pD j 0)] [(41,[.multi M])] λr B=>r= .tup []/\B=[(41,[.multi (BZ (BZ M k (.cells 32 (c.set 0 h))) j (.cells 33 [AF t]))])]:=by
 refine At func41 Z Z ntmps41 Z Z Z λF C=>(AE ?_);refine J (D2 (f:=41) (n:=2) Z Z s Bl Z Z (λb g=>by rcases Υ.1 g with rfl | g;rfl;rcases Υ.1 g with rfl | g;rfl;cases g) Z) (J (As (z) Z Z) (fZ Z Z (J (Dc Z Z Z) (J (Dc Z Z Z) (J (C9 Z jI Z Z Z) (V (Pk (f:=41) (off:=0) Z Z y Z l (by omega) Z DD) (V (Pk (f:=41) (off:=0) Z Z Z Z (by rw [Hu w];exact i) (by simp) Z a8) (AD ?_))))))));exact ⟨_,[41],_,A2 Z,Z,Z,Z,Z⟩
theorem qq (s:M o=some (.cells 39 (RT a))) (l:M k=some (.cells 32 c)) (A:c.length=5) (i:M j=some (.cells 33 [AF u])) (w:j≠k) (y:h.one=true) (z:AK prog 43 [.d (Bq a)] (.tup [h,AF t])):
  AO prog 42 [.d (pD o 0),.d (pD k 0),.d (pD j 0)] [(41,[.multi M])] λr B=>r= .tup []/\B=[(41,[.multi (BZ (BZ M k (.cells 32 (c.set 1 h))) j (.cells 33 [AF t]))])]:=by
 refine At func42 Z Z ntmps42 Z Z Z λF C=>(AE ?_);refine J (D2 (f:=41) (n:=2) Z Z s Bl Z Z (λb g=>by rcases Υ.1 g with rfl | g;rfl;rcases Υ.1 g with rfl | g;rfl;cases g) Z) (J (As (z) Z Z) (fZ Z Z (J (Dc Z Z Z) (J (Dc Z Z Z) (J (C9 Z jr Z Z Z) (V (Pk (f:=41) (off:=1) Z Z y Z l (by omega) Z DD) (V (Pk (f:=41) (off:=0) Z Z Z Z (by rw [Hu w];exact i) (by simp) Z a8) (AD ?_))))))));exact ⟨_,[41],_,A2 Z,Z,Z,Z,Z⟩
theorem qp {z:D} (w:M o=some (.cells 39 (RT a))) (g:M k=some (.cells 32 c)) (C:c.length=5) (l:c[0]? =some z) (s:M j=some (.cells 33 [AF u])) (y:j≠k) (A:h.one=true) (B:AK prog 23 [.d (Bq a),.d z] (.tup [h,AF t])):
  AO prog 44 [.d (pD o 0),.d (pD k 0),.d (pD j 0)] [(41,[.multi M])] λr E=>r= .tup []/\E=[(41,[.multi (BZ (BZ M k (.cells 32 (c.set 2 h))) j (.cells 33 [AF t]))])]:=by
 refine At func44 Z Z ntmps44 Z Z Z λF G=>(AE (J (D2 (f:=41) (n:=2) Z Z w Bl Z Z (λb i=>by rcases Υ.1 i with rfl | i;rfl;rcases Υ.1 i with rfl | i;rfl;cases i) Z) (J (C9 Z jI Z Z Z) ?_)));refine J (EE (f:=41) Z Z g l BL Z) (J (As (B) Z Z) (fZ Z Z (J (Dc Z Z Z) (J (Dc Z Z Z) (J (C9 Z d8 Z Z Z) (V (Pk (f:=41) (off:=2) Z Z A Z g (by omega) Z rx) (V (Pk (f:=41) (off:=0) Z Z Z Z (by rw [Hu y];exact s) (by simp) Z a8) (AD ?_))))))));exact ⟨_,[41],_,A2 Z,Z,Z,Z,Z⟩
theorem qo (s:M o=some (.cells 39 (RT a))) (l:M k=some (.cells 32 c)) (A:c.length=5) (i:M j=some (.cells 33 [AF u])) (w:j≠k) (y:h.one=true) (z:AK prog 30 [.d (Bq a)] (.tup [h,AF t])):
  AO prog 45 [.d (pD o 0),.d (pD k 0),.d (pD j 0)] [(41,[.multi M])] λr B=>r= .tup []/\B=[(41,[.multi (BZ (BZ M k (.cells 32 (c.set 3 h))) j (.cells 33 [AF t]))])]:=by
 refine At func45 Z Z ntmps45 Z Z Z λF C=>(AE ?_);refine J (D2 (f:=41) (n:=2) Z Z s Bl Z Z (λb g=>by rcases Υ.1 g with rfl | g;rfl;rcases Υ.1 g with rfl | g;rfl;cases g) Z) (J (As (z) Z Z) (fZ Z Z (J (Dc Z Z Z) (J (Dc Z Z Z) (J (C9 Z jq Z Z Z) (V (Pk (f:=41) (off:=3) Z Z y Z l (by omega) Z rx) (V (Pk (f:=41) (off:=0) Z Z Z Z (by rw [Hu w];exact i) (by simp) Z a8) (AD ?_))))))));exact ⟨_,[41],_,A2 Z,Z,Z,Z,Z⟩
theorem qn (s:M o=some (.cells 39 (RT a))) (l:M k=some (.cells 32 c)) (A:c.length=5) (i:M j=some (.cells 33 [AF u])) (w:j≠k) (y:h.one=true) (z:AK prog 31 [.d (Bq a)] (.tup [h,AF t])):
  AO prog 46 [.d (pD o 0),.d (pD k 0),.d (pD j 0)] [(41,[.multi M])] λr B=>r= .tup []/\B=[(41,[.multi (BZ (BZ M k (.cells 32 (c.set 4 h))) j (.cells 33 [AF t]))])]:=by
 refine At func46 Z Z ntmps46 Z Z Z λF C=>(AE ?_);refine J (D2 (f:=41) (n:=2) Z Z s Bl Z Z (λb g=>by rcases Υ.1 g with rfl | g;rfl;rcases Υ.1 g with rfl | g;rfl;cases g) Z) (J (As (z) Z Z) (fZ Z Z (J (Dc Z Z Z) (J (Dc Z Z Z) (J (C9 Z i9 Z Z Z) (V (Pk (f:=41) (off:=4) Z Z y Z l (by omega) Z uB) (V (Pk (f:=41) (off:=0) Z Z Z Z (by rw [Hu w];exact i) (by simp) Z a8) (AD ?_))))))));exact ⟨_,[41],_,A2 Z,Z,Z,Z,Z⟩
abbrev Cy:D:= .sl (some true) []
def tn:List FuncId:=[41,42,44,45,46]
def vV (b1 b4 b5:Nat) (g:FuncId):D:= .fn g [] [pD b1 0,pD b4 0,pD b5 0]
noncomputable def ja (p:fj):List D:=[Ga (fo p),Ga (DV p),XV (gL (ft p) (DX p (fo p))),XV (jb (ft p) (ia p)),.sl none ((jc p).map tU)]
noncomputable def jF (p:fj) (k:Nat):List D:=(ja p).take k++List.replicate (5 - k) Cy
theorem ul (i:Fw a) (h:Az a=0) (v:A<tn.length) (f:M o=some (.cells 39 (RT a))) (c:M k=some (.cells 32 (jF a A))) (b:M j=some (.cells 33 [AF 0])) (g:j≠k):
  AO prog tn[A] [.d (pD o 0),.d (pD k 0),.d (pD j 0)] [(41,[.multi M])] λr w=>r= .tup []/\w=[(41,[.multi (BZ (BZ M k (.cells 32 (jF a (A+1)))) j (.cells 33 [AF 0]))])]:=by
 have s:∀x∈fo a,x∈a.it.map AI.id:=λx t=>ZL h t;have l:=I7 h;have u:=Lt h;have y:=i.i
 match A,v with
 | 0,_=>exact qs f c Z b g Z (Jk a i h)
 | 1,_=>exact qq f c Z b g Z (Tu a i h)
 | 2,_=>exact qp f c Z Z b g Z (eL a (fo a) i (by omega) (SE h l s) h l)
 | 3,_=>exact qo f c Z b g Z (Zc a i h)
 | 4,_=>exact qn f c Z b g Z (Zh a i h)
set_option maxHeartbeats 4000000 in
theorem WS (p:fj) (I:Fw p) (N:Az p=0):AK prog 12 [.d (Bq p)] (.tup [.agg (ja p),AF 0]):=by
 refine At func12 Z Z ntmps12 Z Z Z λF y=>(AC (AE ?_));refine V (Bo 1 Z Z Z Z Z Z Z) (V (By 2 oX Z Z Z Z) (AB Z Z (AD (AC (AE (V (By 4 oX Z Z Z Z) (AD (AC ?_))))))));refine AE (V (By 5 tw Z Z Z Z) (AD (AC (AC (Ht 41 Z Z Z (fJ (ds:=RT p) 1 1 41 y Z Z Z Z Z Z Z Z Z Z Z (λ_=>rfl) λg L=>(fJ (ds:=[Cy,Cy,Cy,Cy,Cy]) 4 4 41 y Z Z Z Z Z Z Z Z Z Z Z (λ_=>rfl) λb w=>(fJ (ds:=[AF 0]) 5 5 41 y Z Z Z Z Z Z Z Z Z Z Z (λ_=>rfl) λa h=>?_))))))));have o:b≠g:=λe=>by rw [e,Fu] at w;cases w
 have l:a≠b:=λe=>by rw [e,Fu] at h;cases h
 have z:a≠g:=λe=>by rw [e,Hu (Ne.symm o),Fu] at h;cases h
 refine AE (J (Xy (ds:=[]) (es:=[pD g 0,pD b 0,pD a 0]) Z Z Z Z Z) (J (Xy (ds:=[]) (es:=[pD g 0,pD b 0,pD a 0]) Z Z Z Z Z) ?_));refine J (Xy (ds:=[]) (es:=[pD g 0,pD b 0,pD a 0]) Z Z Z Z Z) (J (Xy (ds:=[]) (es:=[pD g 0,pD b 0,pD a 0]) Z Z Z Z Z) (J (Xy (ds:=[]) (es:=[pD g 0,pD b 0,pD a 0]) Z Z Z Z Z) (V (C5 20 uJ Z Z Z Z Z Z Z Z) (J (Qp Z underlying94 Z) (fZ Z Z (AD (AZ (BO (α:=Nat×MF) (λq=>⟨27,[(2,(.ptr 2 0 0)),(4,(.d (pD b 0))),(5,(.d (pD a 0))),(13,(.own 20 0 5)),(14,(.d (AF 5))),(15,(.d (AF (q.1:Int))))],[(20,[.rowD 1 1 (tn.map (vV g b a))]),(2,[.blk 32 [.d Cy,.d Cy,.d Cy,.d Cy,.d Cy]]),(41,[.multi q.2])]⟩) (λq=>q.1<=5/\q.2 g=some (.cells 39 (RT p))/\q.2 b=some (.cells 32 (jF p q.1))/\q.2 a=some (.cells 33 [AF 0])) (λq=>5 - q.1) ((0,_)) (⟨ζ _,by show BZ _ _ _ _=_;rw [Hu (Ne.symm z),Hu (Ne.symm o)];exact Fu _ _ _,by show BZ _ _ _ _=_;rw [Hu (Ne.symm l)];exact Fu _ _ _,Fu _ _ _⟩) (AY y [20,2,41] Z Z No) ?_))))))));rintro ⟨k,M⟩ ⟨H,j,i,v⟩;dsimp only at H j i v⊢;refine AC (AE (J (BB Z Z Z) (AD (AC (A9 Z (λs=>?_) (λs=>?_))))))
 .refine AX (AC (AZ (AC ?_)));have t:k<5:=BR s;have u:k<tn.length:=t;have C:BZ (BZ M b (.cells 32 (jF p (k+1)))) a (.cells 33 [AF 0]) g=some (.cells 39 (RT p)):=by rw [Hu (Ne.symm z),Hu (Ne.symm o)];exact j
  have B:BZ (BZ M b (.cells 32 (jF p (k+1)))) a (.cells 33 [AF 0]) b=some (.cells 32 (jF p (k+1))):=by rw [Hu (Ne.symm l)];exact Fu _ _ _
  have x:BZ (BZ M b (.cells 32 (jF p (k+1)))) a (.cells 33 [AF 0]) a=some (.cells 33 [AF 0]):=Fu _ _ _;refine AE (J (DB (k) Z Z (Z) (t) Z underlying94 vK Z) (J (EA Z Z (A5 u) Z vM Z) (AB Z Z (AD (AC (AE (fZ Z Z ?_)))))));refine C6 (Y2 (ul I N u j i v l) Z [41] ⟨Z,trivial⟩ Z Z Z Z (λr O ⟨G,E⟩=>by subst G E;exact ⟨Z,Z,Z⟩) Z) Z ?_;rintro _ ⟨r,O,⟨G,E⟩,rfl⟩;subst G E;refine AD (AC (AE ?_));refine J (EE (f:=41) Z Z x Z u1 Z) (J (Cw Z Z Z) (AD (Cm Z (gV (by decide)) (AX (AE (J (Al Z Z (AM (k+1) (by omega)) Z) (fZ Z Z (AD ?_))))))));exact ⟨(k+1,_),⟨by show k+1<=5;omega,C,B,x⟩,by show 5 - (k+1)<5 - k;omega,AY y [20,2,41] Z (Z) No⟩
 .refine Aw (AC ?_);have A:k=5:=by have:=s;omega
  subst A;refine AE (J (D2 (f:=41) (n:=5) Z Z i uN Z Z (λc K=>by have D:c∈ja p:=K;unfold ja at D;simp only [Υ,List.not_mem_nil,or_false] at D;rcases D with rfl | rfl | rfl | rfl | rfl<;>rfl) Z) (V (B3 Z Z Z Z Z Z Z rv) (AB Z Z (AD (A4 ?_)))));exact ⟨_,[],_,A2 Z,Z,Z,Z,Z⟩
theorem UX {C:Nat ->Nat ->Prop} (b:0<y) (h:∀i j,i<y ->j<y ->C i j):jJ y C=[List.range y]:=by
 unfold jJ
 have o:((List.range y).filter λk=>dec (∀j,j<k ->¬C k j))=[0]:=by
  obtain ⟨m,rfl⟩:∃m,y=m+1:=⟨y - 1,by omega⟩
  rw [List.range_succ_eq_map,jD,ϱ (Xl λj a=>absurd a (Nat.not_lt_zero j)),List.filter_map]
  have l:(List.range m).filter ((λk=>dec (∀j,j<k ->¬C k j))∘Nat.succ)=[]:=List.filter_eq_nil_iff.2 λk f=>by
   have c:=Ψ.1 f;show ¬dec (∀j,j<k+1 ->¬C (k+1) j)=true;rw [FQ];exact λg=>g 0 (Nat.succ_pos k) (h _ _ (by omega) (by omega))
  rw [l];rfl
 rw [o,List.map_singleton,List.filter_eq_self.2 λj a=>Xl (h 0 j b (Ψ.1 a))]
theorem e9 (g:List (List Nat)):fw g=gv (jJ g.length (K3 g)):=rfl
theorem lj:s∈fe (i8 f E) i↔i<E.length/\s<E.length/\Zt f (DJ E i) (DJ E s):=by grind [i8,ik,SJ,fe]
theorem Sv {f:Nat ->List Nat} {nx:Nat ->Nat} (h:∀i,i<y ->nx i∈f i) {P:Nat ->Nat} (w:∀i,i<y ->P i<y) (o:∀m,m<y ->nx (P m)=P ((m+1) % y)) (c:∀i,i<y ->∃m,m<y/\P m=i):∀i j,i<y ->j<y ->Rh f i j:=by
 have step:∀d m,m<y ->Rh f (P m) (P ((m+d) % y)):=λd m r=>by
  induction d with
  | zero=>rw [iT,Nat.mod_eq_of_lt r];exact .refl _
  | succ d l=>
   have g:=Nat.mod_lt (m+d) (by omega:y>0);have k:=h _ (w _ g);rw [o _ g,Nat.mod_add_mod] at k;exact .step l k
 intro i j t s;obtain ⟨a,v,rfl⟩:=c i t;obtain ⟨b,u,rfl⟩:=c j s;have:=step (b+y - a) a v
 rwa [show a+(b+y - a)=b+y by omega,Nat.add_mod_right,Nat.mod_eq_of_lt u] at this
def dH:List AI:=[P8 1 [65] [66] 5,P8 2 [66] [67] 5,P8 3 [67] [65] 5,P8 4 [65] [68] 4]
def kK:fj:=⟨RK,dH⟩
theorem Vo:Az kK=0:=by decide
theorem u9:Fw kK:=⟨by decide,by decide,by decide⟩
theorem sy:DT kK=RK:=(bU Vo (List.Perm.refl _) (by decide)).symm
theorem dD:fk kK=dH:=by decide
theorem l4:fo kK=[1,2,3]:=by
 unfold fo Mj;rw [sy,dD];exact jS (by kernel_rfl)
theorem sz:DV kK=[]:=by
 unfold DV;rw [sy,dD];exact jS (by kernel_rfl)
def eK:List (AI×Nat):=[(P8 1 [65] [66] 5,0),(P8 2 [66] [67] 5,0),(P8 3 [67] [65] 5,0)]
theorem sx:DX kK [1,2,3]=eK:=by
 unfold DX;rw [<-show fk kK=BK kK.it from ϱ Vo,dD]
 rfl
theorem sw:ia kK=eK:=by
 unfold ia;rw [<-show fk kK=BK kK.it from ϱ Vo,dD,l4,sz]
 rfl
theorem sv:∀r∈ft kK,CF r=0:=by decide
theorem pc (b:i<3) (a:s<3) (h:decide (∃r∈ft kK,Bw (DJ eK i) r<0/\0<Bw (DJ eK s) r)=true):Zt (ft kK) (DJ eK i) (DJ eK s):=by grind [o0,sv,Bw]
theorem oZ {a b:AI} (h:Zt f a b):J0 f a b:=by grind [JG,Zt,J0]
def tl:Nat ->Nat
 | 0=>2
 | 1=>0
 | _=>1
theorem X1 (i:Nat) (a:i<3):tl i<3/\Zt (ft kK) (DJ eK i) (DJ eK (tl i)):=by
 match i,a with
 | 0,_=>exact ⟨by decide,pc (by decide) (by decide) (by decide)⟩
 | 1,_=>exact ⟨by decide,pc (by decide) (by decide) (by decide)⟩
 | 2,_=>exact ⟨by decide,pc (by decide) (by decide) (by decide)⟩
def oK:Nat ->Nat
 | 0=>0
 | 1=>2
 | _=>1
theorem pk:jb (ft kK) eK=[[1,2,3]]:=by
 have h:∀i j,i<3 ->j<3 ->Rh (fe (i8 (ft kK) eK)) i j:=Sv (nx:=tl) (P:=oK) (λi a=>lj.2 ⟨a,(X1 i a).1,(X1 i a).2⟩) (by decide) (by decide) (by decide);unfold jb;rw [e9,Hc,show eK.length=3 from rfl,UX (by decide) λi j a b=>⟨h i j a b,h j i b a⟩]
 decide
theorem pf:gL (ft kK) eK=[[1,2,3]]:=by
 have h:∀i j,i<3 ->j<3 ->Rh (pS (ft kK) eK) i j:=Sv (nx:=tl) (P:=oK) (λi a=>E7.2 ⟨a,(X1 i a).1,oZ (X1 i a).2⟩) (by decide) (by decide) (by decide);unfold gL;rw [show eK.length=3 from rfl,UX (C:=Cn (ft kK) eK) (by decide) h]
 decide
theorem dC:fg kK=RK.map (IM kK):=(XW Vo (List.Perm.refl _) (by decide)).symm
theorem dB (i:Int) (h:(B2 kK i).af=[]):PX kK i=(RK.map (IM kK)).flatMap (FJ i):=by grind [PX,dC,Yh,Y5]
theorem pj:gY kK [4]=[1,4]:=by
 have a:PX kK 4=[⟨4,1,kp 65⟩]:=by rw [dB 4 (by decide)];exact jS (by kernel_rfl)
 have g:PX kK 1=[]:=by rw [dB 1 (by decide)];exact jS (by kernel_rfl)
 rw [<-Xo (C:=[4,1]) Vo (by decide) (by decide) λx=>?_]
 .exact (Sj (List.Perm.swap _ _ _) (by decide)).symm
 .constructor
  .intro h;rcases Υ.1 h with rfl | h
   .exact .base (by decide)
   .rw [η.1 h];exact YE.step (b:=⟨4,1,kp 65⟩) (i:=4) (.base (by decide)) (by rw [a];exact η.2 Z)
  .intro h
   induction h with
   | base h=>rw [η.1 h];decide
   | step _ f c=>
    grind
theorem u8:gg kK 4=[⟨kp 65,9⟩]:=by
 unfold gg Ms;rw [pj,dC];exact jS (by kernel_rfl)
theorem pq:jc kK=[(4,⟨kp 65,9⟩)]:=by
 unfold jc;rw [<-show fk kK=BK kK.it from ϱ Vo,dD];have b:∀id∈([1,2,3]:List Int),hJ kK id=none:=λid h=>Ua (by rw [l4];exact h)
 have a:hJ kK 4=some (4,⟨kp 65,9⟩):=by
  unfold hJ;rw [l4,u8,θ (by decide)];rfl
 show ([1,2,3,4]:List Int).filterMap (hJ kK)=_
 simp_all
theorem pe:ja kK=[Ga [1,2,3],Ga [],XV [[1,2,3]],XV [[1,2,3]],.sl none (([(4,⟨kp 65,9⟩)]:List (Int×Ac)).map tU)]:=by
 unfold ja;rw [l4,sz,sx,sw,pf,pk,pq]
theorem To (l m:List Int) (u:l.length<=100000) (t:m.length<=100000):AK prog 17 [.d (.sl none (l.map AF)),.d (.sl none (m.map AF))] (Ah (decide (l=m))):=by
 refine At func17 Z Z ntmps17 Z Z Z λF r=>(AC (AE (AB Z Z (AD (AC ?_)))));refine AC (AE (fZ Z Z (J (Ba Z ch Z) (fZ Z Z (J (Ba Z ch Z) (J (Cw Z Z Z) (AD (A9 Z (λc=>?_) (λc=>?_)))))))))
 .refine AC (AE (AB Z Z (AD (A4 ?_))));exact ⟨_,[],[],A2 Z,Z,Z,J9 (λh=>by have i:=gG List.length h;have h:=c;omega),Z⟩
 .refine AX (AC (AC ?_));have j:l.length=m.length:=by have h:=c;omega
  refine AE (AB Z Z (AD (AZ (BO (α:=Nat) (λk=>⟨26,[(0,.d (.sl none (l.map AF))),(1,.d (.sl none (m.map AF))),(5,(.d (AF (k:Int))))],[]⟩) (λk=>k<=l.length/\l.take k=m.take k) (λk=>l.length - k) (0) (⟨ζ _,by simp⟩) (AY r [] Z Z Qs) ?_))));rintro k ⟨s,o⟩;refine AC (AC (AE (fZ Z Z (fZ Z Z (J (Ba Z ch Z) (J (BB Z Z Z) (AD (A9 Z (λa=>?_) (λa=>?_)))))))))
  .have g:k<l.length:=BR a;refine AX (AC (AZ (AC ?_)));have f:k<m.length:=by omega
   refine CZ [[],[],[0,1],[0,1,2],[],[],[4,5],[4,5,6],rg 8] mixed Z (CG (Av 0 Z Z (Av 5 Z Z (AU [17,18] Z (BJ (k) Z Z (Z) (A5 g) ch Z BU Z) ?_))));refine AU [19] Z (CI Z Z An Z) (Av 1 Z Z (Av 5 Z Z (AU [21,22] Z (BJ (k) Z Z (Z) (A5 f) ch Z BU Z) (AU [23] Z (CI Z Z An Z) (CB 8 Z Z Z (Ad 9 Z Z (J (Cw Z Z Z) (AD ⟨Z,?_⟩))))))));refine CM (A9 Z (λb=>?_) (λb=>?_))
   .refine AC (AE (AB Z Z (AD (A4 ?_))));exact ⟨_,[],[],A2 Z,Z,Z,J9 (λh=>by subst h;exact b Z),Z⟩
   .refine AX (AE (fZ Z Z (J (Al Z Z (AM (k+1) (by omega)) Z) (AB Z Z (AD ?_)))));exact ⟨k+1,⟨by show k+1<=_;omega,by rw [ψ g,ψ f,o,Classical.not_not.1 b]⟩,by show l.length - (k+1)<l.length - k;omega,AY r [] Z (Z) Qs⟩
  .refine Aw (AC (AE (AB Z Z (AD (A4 ?_)))));exact ⟨_,[],[],A2 Z,Z,Z,Yg (by have i:=o;rw [κ (by have h:=a;omega),κ (by have h:=a;omega)] at i;exact i),Z⟩
theorem Lr (l m:List (List Int)) (w:l.length<=100000) (v:m.length<=100000) (j:∀x∈l,x.length<=100000) (i:∀x∈m,x.length<=100000):AK prog 18 [.d (XV l),.d (XV m)] (Ah (decide (l=m))):=by
 refine At func18 Z Z ntmps18 Z Z Z λF t=>(AC (AE (AB Z Z (AD (AC ?_)))));refine AC (AE (fZ Z Z (J (Ba Z ea Z) (fZ Z Z (J (Ba Z ea Z) (J (Cw Z Z Z) (AD (A9 Z (λg=>?_) (λg=>?_)))))))))
 .refine AC (AE (AB Z Z (AD (A4 ?_))));exact ⟨_,[],[],A2 Z,Z,Z,J9 (λh=>by have o:=gG List.length h;have h:=g;omega),Z⟩
 .refine AX (AC (AC ?_));have r:l.length=m.length:=by have h:=g;omega
  refine AE (AB Z Z (AD (AZ (BO (α:=Nat) (λk=>⟨27,[(0,.d (XV l)),(1,.d (XV m)),(5,(.d (AF (k:Int))))],[]⟩) (λk=>k<=l.length/\l.take k=m.take k) (λk=>l.length - k) (0) (⟨ζ _,by simp⟩) (AY t [] Z Z Qs) ?_))));rintro k ⟨u,s⟩;refine AC (AC (AE (fZ Z Z (fZ Z Z (J (Ba Z ea Z) (J (BB Z Z Z) (AD (A9 Z (λa=>?_) (λa=>?_)))))))))
  .have c:k<l.length:=BR a;refine AX (AC (AZ (AC ?_)));have b:k<m.length:=by omega
   refine CZ [[],[],[0,1],[0,1,2],[],[],[4,5],[4,5,6],rg 8,rg 9] mixed Z (CG (Av 0 Z Z (Av 5 Z Z (AU [17,18] Z (BJ (k) Z Z (Z) (A5 c) ea Z DD Z) ?_))));refine AU [19] Z (CI Z Z BL Z) (Av 1 Z Z (Av 5 Z Z (AU [21,22] Z (BJ (k) Z Z (Z) (A5 b) ea Z DD Z) (AU [23] Z (CI Z Z BL Z) (CB 8 Z Z Z (Ad 9 Z Z (J (As (To l[k] m[k] (j _ (ξ c)) (i _ (ξ b))) Z Z) (AD ⟨Z,?_⟩))))))));refine Ad 10 Z Z (J (Jw Z Z) (AD ⟨Z,?_⟩));refine CM (A9 Z (λf=>?_) (λf=>?_))
   .refine AC (AE (AB Z Z (AD (A4 ?_))));exact ⟨_,[],[],A2 Z,Z,Z,J9 (λh=>by subst h;exact f Z),Z⟩
   .refine AX (AE (fZ Z Z (J (Al Z Z (AM (k+1) (by omega)) Z) (AB Z Z (AD ?_)))));exact ⟨k+1,⟨by show k+1<=_;omega,by rw [ψ c,ψ b,s,Classical.not_not.1 f]⟩,by show l.length - (k+1)<l.length - k;omega,AY t [] Z (Z) Qs⟩
  .refine Aw (AC (AE (AB Z Z (AD (A4 ?_)))));exact ⟨_,[],[],A2 Z,Z,Z,Yg (by have o:=s;rw [κ (by have h:=a;omega),κ (by have h:=a;omega)] at o;exact o),Z⟩
theorem bw (id n:Int) (a b:List UInt8) (g:0<=n) (f:n<=1000000000000000):AK prog 40 [.d (AF id),.d (Am a),.d (Am b),.d (AF n)] (.agg [AF id,AF 0,AF id,.sl none ((P8 id a b n).po.map B7),.sl (some true) [],.sl (some true) []]):=by
 refine At func40 Z Z ntmps40 Z Z Z λF c=>(AC (AE (V (By 1 FG Z Z Z Z) (AD (AC ?_)))));refine AE (fZ Z Z (fZ Z Z (fZ Z Z (J (FD aC br Z Z Z) (fZ Z Z (J (au Z (Ξ _ (by omega)) Z) (J (FD Pq bt Z Z Z) (fZ Z Z ?_))))))));refine J (FD aC br Z Z Z) (fZ Z Z (J (FD Pq bt Z Z Z) (V (C5 4 Y7 Z Z Z Z Z Z Z Z) (Ux (emb:=B7) 20 4 (P8 id a b n).po Z Z Z Z Z Z Z (J (FD FG pC Z Z Z) (V (B3 Z Z Z Z Z Z Z Co) (AD (A4 ?_))))))));exact ⟨_,[],[],A2 Z,Z,Z,Z,Z⟩
theorem NP (id n:Int) (a b:List UInt8) (l:0<=n) (k:n<=1000000000000000):AK prog 40 [.d (AF id),.d (Am a),.d (Am b),.d (AF n)] (Ag (P8 id a b n)):=
 (bw id n a b l k).weak λw O v h=>h.aggMono Z (by simp [D.one]) λi c o g f v j=>by
  match i,g,f with
  | 0,g,f=>injection g with g;injection f with f;subst g f;exact j
  | 1,g,f=>injection g with g;injection f with f;subst g f;exact j
  | 2,g,f=>injection g with g;injection f with f;subst g f;exact j
  | 3,g,f=>injection g with g;injection f with f;subst g f;exact j
  | 4,g,f=>injection g with g;injection f with f;subst g f;exact j.anyNil
  | 5,g,f=>injection g with g;injection f with f;subst g f;exact j.anyNil
set_option maxHeartbeats 2000000 in
theorem ZQ:AK prog 10 [] (.raw (.bool true)):=by
 have j:=WS kK u9 Vo;rw [pe] at j;refine At func10 Z Z ntmps10 Z Z Z λF s=>(AC ?_);refine AE (AB Z Z (AD (AC (AE (V (By 1 P3 Z Z Z Z) (AD (AC (AC ?_))))))));refine AE (V (C5 2 uK Z Z Z Z Z Z Z Z) (Ux (emb:=Am) 7 2 sk Z Z Z Z Z Z Z (J (Ba Z underlying86 Z) (fZ Z Z (AD (AZ (Zw 1 0 0 901 My Z Z Z Z Z Z Z (BO (α:=Nat×List Ac) (λq=>⟨86,[(1,(.ptr 1 0 0)),(7,(.d (.sl none (sk.map Am)))),(8,(.d (AF 3))),(9,(.d (AF (q.1:Int))))],[(901,[.rowD 88 7 (q.2.map Bv)]),(1,[.blk 39 [.own 901 0 q.2.length,.d Cy]])]⟩) (λq=>q.1<=3/\q.2=RK.take q.1) (λq=>3 - q.1) ((0,[])) (⟨by decide,Z⟩) (AY s [901,1] Z Z E0) ?_))))))));rintro ⟨k,l⟩ ⟨r,a⟩;dsimp only at r a⊢;refine AC (AE (J (BB Z Z Z) (AD (AC (A9 Z (λc=>?_) (λc=>?_))))))
 .have i:k<sk.length:=by have h:=BR (b:=3) c;exact h
  refine AX (AC (AZ (AC ?_)));have g:l++ [⟨⟨0,Uh sk[k],[],[]⟩,0⟩]=RK.take (k+1):=by subst a;match k,i with | 0,_=>rfl | 1,_=>rfl | 2,_=>rfl
  have t:l.length<=3:=by rw [a];simp [RK];omega
  refine AE (J (BJ (k) Z Z (Z) (A5 i) underlying86 Z vJ Z) (J (CI Z Z CK Z) ?_));refine AB Z Z (AD (AE (J (AN Z Dx Z Z Z) (J (AP Z Z Z ON Z) (fZ Z Z (J (FD aC br Z Z Z) (J (FD Jy TK Z Z Z) (J (FD Qw pB Z Z Z) ?_))))))));refine V (C5 50 My Z Z Z Z Z Z Z Z) (V (F2 (l) ([⟨⟨0,Uh sk[k],[],[]⟩,0⟩]) Z Z Z Z Z Z Z Z My (by simp only [ς];omega) Z Z Z Z) (J (AN Z Dx Z Z Z) (V (B3 Z Z Z Z Z Z Z oh) (AD (AE (J (Al Z Z (AM (k+1) (by omega)) Z) (fZ Z Z (AD ?_))))))));exact ⟨(k+1,_),⟨by show k+1<=3;omega,g⟩,by show 3 - (k+1)<3 - k;omega,AY s [901,1] Z (Z) E0⟩
 .refine Aw (AC ?_);have o:k=3:=by have h:=c;omega
  subst o;have f:l=RK:=a;subst f;refine Zy (ys:=RK.map Bv) 1 0 0 901 Z Z Z (by decide) Z Z Z Z Z Z Z (AE (J (As (NP 1 5 [65] [66] (by decide) (by decide)) Z Z) (J (As (NP 2 5 [66] [67] (by decide) (by decide)) Z Z) (J (As (NP 3 5 [67] [65] (by decide) (by decide)) Z Z) (J (As (NP 4 4 [65] [68] (by decide) (by decide)) Z Z) (V (C5 52 LY Z Z Z Z Z Z Z Z) (Ux (emb:=Ag) 27 52 dH Z Z Z Z Z Z Z ?_)))))));refine J (AN Z DA Z Z Z) (V (B3 Z Z Z Z Z Z Z k7) (AD (AC (AE (J (Ay Z Z Bl Z Z Z) (J (As (j) Z Z) (fZ Z Z (J (Dc Z Z Z) ?_))))))));refine J (Dc Z Z Z) (V (By 4 oX Z Z Z Z) (V (B3 Z Z Z Z Z Z Z rv) (AB Z Z (AD (AC (AE (V (C5 54 BP Z Z Z Z Z Z Z Z) (Ux (emb:=AF) 34 54 [1,2,3] Z Z Z Z Z Z Z ?_))))))));refine V (C5 55 Nw Z Z Z Z Z Z Z Z) (Ux (emb:=Ga) 35 55 [[1,2,3]] Z Z Z Z Z Z Z (AB Z Z (AD (AC (CZ [[],[0],[0,1],[0,1,2],[0,1,2,3],[0,1,2],[0,1,2,5],[0,1,2,5,6],rg 8,rg 9,rg 10,rg 11,rg 12,rg 13,rg 14,rg 15,rg 16,rg 17,rg 18,rg 17,rg 20,rg 21,rg 22,rg 23,rg 24,rg 23,rg 26,rg 27,rg 28,rg 29,rg 30,rg 31,rg 32,rg 33,rg 34,rg 35,rg 36,rg 37,rg 38,rg 39,rg 40,rg 41,rg 42,rg 43,rg 44,rg 45,rg 46,rg 47,rg 48,rg 49,rg 50] mixed Z (Ad 1 Z Z (fZ Z Z (AD ⟨Z,?_⟩))))))));refine Ad 2 Z Z (J (GF Z Z Z) (AD ⟨Z,?_⟩));refine Ad 3 Z Z (fZ Z Z (Et 38 Z (Z) (AD ⟨Z,?_⟩)));refine CG (Ao [4,38] [] Z Z (λ_=>Ck Z Z Z (AN Z jI Z Z Z)) ?_);refine Au [39,38] Z Z (λ_=>Ck Z Z Z (AP Z Z Z BL Z)) (Ao [6,38] [] Z Z (λ_=>Ck Z Z Z (P0 Z Z)) (Ao [41,38] [] Z Z (λ_=>Ck Z Z Z (BJ (0) Z Z (Z) (Z) ea Z DD Z)) (Ao [42,38] [] Z Z (λ_=>Ck Z Z Z (CI Z Z BL Z)) (CB 8 Z Z Z (Ad 9 Z Z (AQ Z Z Z (J (As (To [1,2,3] [1,2,3] (by decide) (by decide)) Z Z) (AD ⟨Z,?_⟩))))))));refine Ad 10 Z Z (J (B5 Z Z Z Z) (AD ⟨Z,?_⟩));refine Ad 11 Z Z (fZ Z Z (Et 46 Z (Z) (AD ⟨Z,?_⟩)));refine Ad 12 Z Z (AQ Z Z Z (J (AN Z jr Z Z Z) (AD ⟨Z,?_⟩)));refine Ad 13 Z Z (AQ Z Z Z (J (AP Z Z Z BL Z) (AD ⟨Z,?_⟩)));refine Ad 14 Z Z (AQ Z Z Z (J (Ba Z ch Z) (AD ⟨Z,?_⟩)));refine Ad 15 Z Z (AQ Z Z Z (J (GF Z Z Z) (AD ⟨Z,?_⟩)));refine Ad 16 Z Z (J (B5 Z Z Z Z) (AD ⟨Z,?_⟩));refine Ad 17 Z Z (fZ Z Z (Et 52 Z (Z) (AD ⟨Z,?_⟩)));refine CG (Ao [4,52] [] Z Z (λ_=>Ck Z Z Z (AN Z d8 Z Z Z)) (Au [53,52] Z Z (λ_=>Ck Z Z Z (AP Z Z Z sc Z)) (Ao [6,52] [] Z Z (λ_=>Ck Z Z Z (P0 Z Z)) (CB 20 Z Z Z (Ad 21 Z Z (AQ Z Z Z (J (As (Lr [[1,2,3]] [[1,2,3]] (by decide) (by decide) (by decide) (by decide)) Z Z) (AD ⟨Z,?_⟩))))))));refine Ad 22 Z Z (J (B5 Z Z Z Z) (AD ⟨Z,?_⟩));refine Ad 23 Z Z (fZ Z Z (Et 58 Z (Z) (AD ⟨Z,?_⟩)));refine CG (Ao [4,58] [] Z Z (λ_=>Ck Z Z Z (AN Z jq Z Z Z)) (Au [59,58] Z Z (λ_=>Ck Z Z Z (AP Z Z Z sc Z)) (Ao [6,58] [] Z Z (λ_=>Ck Z Z Z (P0 Z Z)) (CB 26 Z Z Z (Ad 27 Z Z (AQ Z Z Z (J (As (Lr [[1,2,3]] [[1,2,3]] (by decide) (by decide) (by decide) (by decide)) Z Z) (AD ⟨Z,?_⟩))))))));refine Ad 28 Z Z (J (B5 Z Z Z Z) (AD ⟨Z,?_⟩));refine Ad 29 Z Z (fZ Z Z (Et 64 Z (Z) (AD ⟨Z,?_⟩)));refine Ad 30 Z Z (AQ Z Z Z (J (AN Z i9 Z Z Z) (AD ⟨Z,?_⟩)));refine Ad 31 Z Z (AQ Z Z Z (J (AP Z Z Z pH Z) (AD ⟨Z,?_⟩)));refine Ad 32 Z Z (AQ Z Z Z (J (Ba Z underlying30 Z) (AD ⟨Z,?_⟩)));refine Ad 33 Z Z (AQ Z Z Z (J (GF Z Z Z) (AD ⟨Z,?_⟩)));refine Ad 34 Z Z (J (B5 Z Z Z Z) (AD ⟨Z,?_⟩));refine Ad 35 Z Z (fZ Z Z (Et 70 Z (Z) (AD ⟨Z,?_⟩)));refine Ad 36 Z Z (AQ Z Z Z (J (AN Z i9 Z Z Z) (AD ⟨Z,?_⟩)));refine Ad 37 Z Z (AQ Z Z Z (J (AP Z Z Z pH Z) (AD ⟨Z,?_⟩)));refine Ad 38 Z Z (AQ Z Z Z (J (BJ (0) Z Z (Z) (Z) underlying30 Z rr Z) (AD ⟨Z,?_⟩)));refine Ad 39 Z Z (AQ Z Z Z (J (Nc Z qT Z Z Z) (AD ⟨Z,?_⟩)));refine Ad 40 Z Z (AQ Z Z Z (J (CI Z Z An Z) (AD ⟨Z,?_⟩)));refine Ad 41 Z Z (AQ Z Z Z (J (GF Z Z Z) (AD ⟨Z,?_⟩)));refine Ad 42 Z Z (J (B5 Z Z Z Z) (AD ⟨Z,?_⟩));refine Ad 43 Z Z (fZ Z Z (Et 78 Z (Z) (AD ⟨Z,?_⟩)));refine Ad 44 Z Z (AQ Z Z Z (J (AN Z i9 Z Z Z) (AD ⟨Z,?_⟩)));refine Ad 45 Z Z (AQ Z Z Z (J (AP Z Z Z pH Z) (AD ⟨Z,?_⟩)));refine Ad 46 Z Z (AQ Z Z Z (J (BJ (0) Z Z (Z) (Z) underlying30 Z rr Z) (AD ⟨Z,?_⟩)));refine Ad 47 Z Z (AQ Z Z Z (J (Nc Z qS Z Z Z) (AD ⟨Z,?_⟩)));refine Ad 48 Z Z (AQ Z Z Z (J (CI Z Z GE Z) (AD ⟨Z,?_⟩)));refine Ad 49 Z Z (AQ Z Z Z (J (GF Z Z Z) (AD ⟨Z,?_⟩)));refine Ad 50 Z Z (J (B5 Z Z Z Z) (AD ⟨Z,?_⟩));refine Ad 51 Z Z (AB Z Z (AD ⟨Z,?_⟩));refine CM (A4 ?_);exact ⟨_,[],[],A2 Z,Z,Z,Z,Z⟩
end Go.Proofs.YteifpcnphnhaoaaGreat
namespace Go.Proofs.YteifpcnphnhaoaaGreat
open Go.RowKit
variable {s:js} {R:Int ->Int ->Prop} {a:List (List Int)} {x:Nat} {P:List Nat} {c:List Int} {k:Nat} {f:fj} {g Y:List Ac} {h i:List Int} {j:Nat} {y:Int}
theorem en (p:fj):gF p (Kf [])=[]:=by grind [gF,List.flatMap_eq_nil_iff,Jt,Kf]
theorem aM (b:Az f=0):Ms f (BN [])=[]:=by
 unfold Ms;rw [List.flatMap_eq_nil_iff];intro x a;have h:=co b x a;unfold S3;rw [θ (by show ¬x.n+Fy f x.r []<0;have:Fy f x.r []=0:=rfl;omega)]
theorem S2 {M:List (Int×Bool)}:Ms f M=[]↔∀x∈fg f,0<=x.n+Fy f x.r M:=by grind [Ms,List.flatMap_eq_nil_iff,S3]
theorem YE.mono {S T:List Int} (h:∀x∈S,x∈T) {x:Int} (a:YE f S x):YE f T x:=by
 induction a with
 | base a=>exact .base (h _ a)
 | step _ c b=>exact .step b c
structure rF (R:Int ->Int ->Prop) (l Y:List Ac):Prop where
 len:Y.length=l.length
 at_:∀(j:Nat) x y,l[j]? =some x ->Y[j]? =some y ->y.r=x.r/\ -4*Mx<=y.n/\y.n<=4*Mx/\R x.n y.n
theorem rF.set (h:rF R g Y) (c:k<Y.length) {n:Int} (f: -4*Mx<=n/\n<=4*Mx) (i:∀x,R x Y[k].n ->R x n):rF R g (Y.set k ⟨Y[k].r,n⟩):=
 ⟨by rw [gp];exact h.len,λj x y b a=>by
  rw [jm] at a
  split at a
  .rename_i e;subst e
   first | (rw [ϱ c] at a;injection a with a;subst a) | (injection a with a;subst a)
   have:=h.at_ k x _ b (ω c);exact ⟨this.1,f.1,f.2,i _ this.2.2.2⟩
  .exact h.at_ j x y b a⟩
theorem rF.map (h:rF R g Y):Y.map Ac.r=g.map Ac.r:=by
 refine i7 (by rw [χ,χ,h.len]) λj b a=>?_;rw [χ] at b a;rw [gq,gq];exact (h.at_ j _ _ (ω a) (ω b)).1
theorem rF.mem (h:rF R g Y):∀y∈Y,∃x∈g,y.r=x.r/\ -4*Mx<=y.n/\y.n<=4*Mx/\R x.n y.n:=λy c=>by
 obtain ⟨j,b,rfl⟩:=ii.1 c;have a:j<g.length:=by rw [<-h.len];exact b
 exact ⟨g[j],ξ a,h.at_ j _ _ (ω a) (ω b)⟩
def lG (x:Nat) (P:List Nat):Nat:=P.foldl (λa i=>a ||| 1<<<i) x
theorem mf (i j:Nat):(1<<<i).testBit j=decide (i=j):=by rw [Nat.one_shiftLeft,Nat.testBit_two_pow]
theorem NQ:∀(P:List Nat) (x j:Nat),(lG x P).testBit j=true↔x.testBit j=true\/j∈P
 | [],x,j=>by simp [lG]
 | i::P,x,j=>by
  show (lG (x ||| 1<<<i) P).testBit j=true↔_;rw [NQ P,Nat.testBit_or,mf,Bool.or_eq_true,iz,Υ]
  constructor
  .rintro ((h | h) | h)
   .exact .inl h
   .exact .inr (.inl h.symm)
   .exact .inr (.inr h)
  .rintro (h | h | h)
   .exact .inl (.inl h)
   .exact .inl (.inr h.symm)
   .exact .inr h
theorem ZG:y∈gK s x↔∃i,i<s.ids.length/\x.testBit i=true/\s.ids.getD i 0=y:=by grind [gK]
theorem R1 (b:s.ids.Nodup) (a:y∈s.ids):y∈gK s x↔x.testBit (s.ids.idxOf y)=true:=by grind [ZG]
def H5:List Int ->List Int ->Bool
 | a::l,b::m=>if a=b then H5 l m else decide (a<b)
 | _,_=>false
def Cg (a b:List Int):Bool:=if a.length≠b.length then decide (a.length<b.length) else H5 a b
theorem O1:∀a b:List Int,H5 a b=true ->H5 b a=false
 | a::l,b::m,h=>by
  unfold H5 at h⊢
  split at h
  .rename_i e;subst e;rw [ϱ rfl];exact O1 l m h
  .rename_i e
   rw [θ (λh=>e h.symm)];have:=jS h;exact gV (by omega)
 | [],_,h=>by cases h
 | _::_,[],h=>by cases h
theorem OZ:∀a b c:List Int,H5 a b=true ->H5 b c=true ->H5 a c=true
 | a::l,b::m,c::r,g,f=>by
  unfold H5 at g f⊢
  split at g
  .rename_i e;subst e
   split at f
   .rename_i e;rw [ϱ e];exact OZ l m r g f
   .rename_i e;rw [θ e];exact f
  .rename_i e
   have k:=jS g
   split at f
   .rename_i i;subst i
    rw [θ e];exact g
   .have j:=jS f;rw [θ (by omega)];exact gQ (by omega)
 | [],_,_,h,_=>by cases h
 | _::_,[],_,h,_=>by cases h
 | _::_,_::_,[],_,h=>by cases h
theorem O0:∀a b:List Int,a.length=b.length ->a≠b ->H5 a b=false ->H5 b a=true
 | a::l,b::m,c,f,h=>by
  unfold H5 at h⊢
  split at h
  .rename_i e;subst e
   rw [ϱ rfl];exact O0 l m (by simpa using c) (λh=>f (by rw [h])) h
  .rename_i e
   have:=of_decide_eq_false h;rw [θ (λh=>e h.symm)];exact gQ (by omega)
 | [],[],_,f,_=>absurd Z f
 | [],_::_,c,_,_=>by simp at c
 | _::_,[],c,_,_=>by simp at c
theorem Td (c:Cg h i=true):¬Cg i h=true:=by grind [Cg,O1]
theorem Tb {c:List Int} (g:Cg h i=true) (f:Cg i c=true):Cg h c=true:=by grind [Cg,OZ]
theorem Tc (f:h≠i) (c:¬Cg h i=true):Cg i h=true:=by grind [Cg,O0]
theorem V7 {c:Type} {R:c ->c ->Prop} (g:∀a b,R a b ->¬R b a) {l m:List c} (k:l.Pairwise R) (j:m.Pairwise R) (h:∀x,x∈l↔x∈m):l=m:=by
 have i:∀{l:List c},l.Pairwise R ->l.Nodup:=λh=>h.imp λ{a b} f e=>by subst e;exact g _ _ f f
 grind [List.Perm.eq_of_pairwise,List.perm_ext_iff_of_nodup]
def IE (n:Nat):Nat ->Nat ->List (List Nat)
 | 0,_=> [[]]
 | l+1,frm=>((List.range (n+1 - (l+1) - frm)).map (frm+ ·)).flatMap λi=>(IE n l (i+1)).map (i:: ·)
theorem Gx (n:Nat):∀(l a x:Nat),iL n l a x=(IE n l a).map (lG x)
 | 0,_,_=>rfl
 | l+1,a,x=>by
  unfold iL IE;rw [List.map_flatMap]
  congr 1
  funext i
  rw [Gx n l (i+1),gZ]
  rfl
theorem TG {n:Nat}:∀{l a:Nat} {P:List Nat},P∈IE n l a ->P.length=l
 | 0,_,P,h=>by simp [IE] at h;subst h;rfl
 | l+1,a,P,h=>by
  unfold IE at h;obtain ⟨i,_,h⟩:=jQ.1 h;obtain ⟨Q,b,rfl⟩:=Θ.1 h;rw [jZ,TG b]
theorem NN {n:Nat}:∀{l a:Nat} {P:List Nat},P∈IE n l a ->P.Pairwise (· < ·)/\∀j∈P,a<=j/\j<n
 | 0,_,P,h=>by simp [IE] at h;subst h;simp
 | l+1,a,P,h=>by
  unfold IE at h;obtain ⟨i,o,h⟩:=jQ.1 h;obtain ⟨k,g,rfl⟩:=Θ.1 o;have f:=Ψ.1 g;obtain ⟨Q,r,rfl⟩:=Θ.1 h;obtain ⟨s,c⟩:=NN r;refine ⟨jA.2 ⟨λj b=>by have:=(c j b).1;omega,s⟩,λj b=>?_⟩;rcases Υ.1 b with rfl | b
  .exact ⟨by omega,by omega⟩
  .have:=c j b;omega
theorem R9 {n:Nat}:∀{P:List Nat} {frm:Nat},frm<=n ->P.Pairwise (· < ·) ->(∀j∈P,frm<=j/\j<n) ->P.length<=n - frm
 | [],_,_,_,_=>ζ _
 | i::P,frm,g,b,h=>by
  have k:=h i iG;obtain ⟨f,c⟩:=jA.1 b
  have:=R9 (P:=P) (frm:=i+1) (by omega) c λj a=>⟨f j a,(h j (i5 _ a)).2⟩
  rw [jZ];omega
theorem TJ {n:Nat}:∀{P:List Nat} {frm:Nat},P.Pairwise (· < ·) ->(∀j∈P,frm<=j/\j<n) ->P∈IE n P.length frm
 | [],_,_,_=>by simp [IE]
 | i::P,frm,f,h=>by
  have l:=h i iG;obtain ⟨g,c⟩:=jA.1 f
  have b:∀j∈P,i+1<=j/\j<n:=λj a=>⟨g j a,(h j (i5 _ a)).2⟩
  have k:=R9 (P:=P) (frm:=i+1) (by omega) c b;show i::P∈IE n (P.length+1) frm;unfold IE;refine jQ.2 ⟨i,Θ.2 ⟨i - frm,Ψ.2 (by omega),by omega⟩,Θ.2 ⟨P,TJ c b,Z⟩⟩
theorem ZJ (a:Int) (l m:List Int):H5 (a::l) (a::m)=H5 l m:=by grind [H5]
theorem TF {n:Nat} {g:Nat ->Int} (k:∀i j,i<j ->j<n ->g i<g j):∀l c,((IE n l c).map λP=>P.map g).Pairwise λa b=>H5 a b=true
 | 0,_=>by simp [IE]
 | l+1,c=>by
  unfold IE;rw [List.map_flatMap,List.pairwise_flatMap]
  constructor
  .intro i _;rw [gZ];have f:=TF k l (i+1);rw [iW] at f⊢;refine f.imp λ{P Q} h=>?_;show H5 (g i::P.map g) (g i::Q.map g)=true;rw [ZJ];exact h
  .rw [iW];refine nR (λ{a b} z t u x r y o=>?_) (List.pairwise_lt_range);obtain ⟨_,w,rfl⟩:=Θ.1 r;obtain ⟨_,v,rfl⟩:=Θ.1 o;obtain ⟨P,_,rfl⟩:=Θ.1 w;obtain ⟨Q,_,rfl⟩:=Θ.1 v;have s:=Ψ.1 t;have:=k (c+a) (c+b) (by omega) (by omega);show (if g (c+a)=g (c+b) then _ else decide (g (c+a)<g (c+b)))=true;rw [θ (by omega)];exact gQ this
theorem QY (b:P.Pairwise (· < ·)) (a:∀j∈P,j<s.ids.length):gK s (lG 0 P)=P.map λi=>s.ids.getD i 0:=by
 unfold gK
 congr 1
 grind [V7,iw,List.pairwise_lt_range,NQ]
def fB (s:js):List (List Int):=(fA s).map (gK s)
theorem Zm (u:s.ids.Pairwise (· < ·)):(fB s).Pairwise λa b=>Cg a b=true:=by
 unfold fB fA;rw [List.map_flatMap,List.pairwise_flatMap]
 have o:∀k,∀L∈((iL s.ids.length k 0 0).filter (ic s)).map (gK s),L.length=k:=λk L D=>by
  grind [Gx,NN,QY,TG]
 constructor
 .intro k _
  have C:=TF (n:=s.ids.length) (g:=λi=>s.ids.getD i 0) (λi j f c=>by
   show s.ids.getD i 0<s.ids.getD j 0;rw [FC 0 c,FC 0 (Nat.lt_trans f c)]
   exact iS.1 u i j _ c f) k 0
  have B:((iL s.ids.length k 0 0).map (gK s)).Pairwise λa b=>H5 a b=true:=by
   rw [Gx,gZ]
   have e:(IE s.ids.length k 0).map (gK s∘lG 0)=(IE s.ids.length k 0).map λP=>P.map λi=>s.ids.getD i 0:=gi λP z=>by
    have h:=NN z;exact QY h.1 λj c=>(h.2 j c).2
   rw [e];exact C
  have A:(((iL s.ids.length k 0 0).filter (ic s)).map (gK s)).Pairwise λa b=>H5 a b=true:=List.Pairwise.sublist (List.filter_sublist.map _) B;refine nR (λ{a b} w v l=>?_) A;unfold Cg;rw [θ (by rw [o k a w,o k b v];exact λh=>h Z)];exact l
 .refine nR (λ{a b} _ _ l x t y r=>?_) (List.pairwise_lt_range);have F:=o a x t;have E:=o b y r;unfold Cg;rw [ϱ (by omega)];exact gQ (by omega)
theorem cd (y:Nat):y∈fA s↔(∃P:List Nat,P.Pairwise (· < ·)/\(∀j∈P,j<s.ids.length)/\lG 0 P=y)/\ic s y=true:=by
 unfold fA;rw [jQ]
 constructor
 .grind [Gx,NN]
 .rintro ⟨⟨P,c,b,e⟩,f⟩
  have h:=TJ (n:=s.ids.length) (frm:=0) c λj a=>⟨ζ _,b j a⟩
  have g:=R9 (n:=s.ids.length) (P:=P) (frm:=0) (ζ _) c λj a=>⟨ζ _,b j a⟩
  refine ⟨P.length,Ψ.2 (by omega),gS.2 ⟨?_,f⟩⟩;rw [Gx]
  grind
def OJ (n x:Nat):List Nat:=(List.range n).filter λi=>x.testBit i
theorem OH (n x:Nat):(OJ n x).Pairwise (· < ·):=List.Pairwise.sublist iw List.pairwise_lt_range
theorem bh {a:Nat} (h:a∈OJ j x):a<j:=Ψ.1 (gS.1 h).1
theorem Li (b:x<2^j):lG 0 (OJ j x)=x:=by
 refine Nat.eq_of_testBit_eq λa=>?_
 grind [OJ,NQ,Nat.testBit_lt_two_pow,ig,Nat.pow_le_pow_right]
theorem pE (h:∀a∈P,a<j):lG 0 P<2^j:=by
 refine Nat.lt_pow_two_of_testBit _ λa b=>?_
 grind [NQ]
theorem ZH (y:Nat):y∈fA s↔y<2^s.ids.length/\ic s y=true:=by
 rw [cd]
 constructor
 .rintro ⟨⟨P,_,a,rfl⟩,c⟩;exact ⟨pE a,c⟩
 .rintro ⟨f,a⟩;exact ⟨⟨OJ s.ids.length y,OH _ _,λj b=>bh b,Li f⟩,a⟩
theorem ce (L:List Int):L∈fB s↔∃y,y<2^s.ids.length/\ic s y=true/\L=gK s y:=by grind [fB,ZH]
theorem dI (s:k<=a.length) (h:a.Pairwise λf b=>Cg f b=true) (w:∀y∈a.drop k,Cg c y=true) (i:k=0\/∃s:k - 1<a.length,¬Cg c a[k - 1]=true) (r:c∉a):(a.take k++ [c]++a.drop k).Pairwise λf b=>Cg f b=true:=by
 have v:∀y∈a.take k,Cg y c=true:=λy o=>by
  rcases i with i | ⟨g,i⟩
  .grind
  .obtain ⟨j,u,rfl⟩:=jX.1 o;have t:Cg a[k - 1] c=true:=Tc (λe=>r (e▸ξ g)) i;rcases Nat.lt_or_ge j (k - 1) with l | l
   .exact Tb (iS.1 h j (k - 1) (by omega) g l) t
   grind
 grind [kH,ji]
theorem l7 (L:List Int):L∈a.take k++ [c]++a.drop k↔L∈a\/L=c:=by grind [kH]
theorem ZI (i:s.ids.Nodup) {y:Nat} (g:x<2^s.ids.length) (f:y<2^s.ids.length) (h:gK s x=gK s y):x=y:=by
 rw [<-Li g,<-Li f]
 congr 1
 refine V7 (R:=λa b:Nat=>a<b) (λa b h=>by omega) (OH _ _) (OH _ _) λj=>?_
 have c:∀z j,j∈OJ s.ids.length z↔∃k:j<s.ids.length,s.ids[j]∈gK s z:=λz j=>by
  grind [OJ,R1]
 grind
section
variable {β:Type} (step:β ->List Int ->β×Bool)
end
section
variable {β:Type}
end
variable {a:List (List Int)} {s:js} {c:Nat}
abbrev vC (s:js) (u:Nat):Hp:=[(2,[.blk 390 [.d (.ptr (uH s))]]),(3,[.blk 292 [.d (r8 u)]])]
structure Us (s:js) (m:Nat) (out:List (List Int)):Prop where
 o:out.Pairwise λa b=>Cg a b=true
 m_:∀L,L∈out↔∃y,y<m/\ic s y=true/\L=gK s y
 l:out.length<=m
theorem Us.skip (h:Us s c a) (b:ic s c=false):Us s (c+1) a:=by
 refine ⟨h.o,λL=>?_,Nat.le_succ_of_le h.l⟩;rw [h.m_]
 grind
theorem Us.add {k:Nat} (h:Us s c a) (i:s.ids.Nodup) (b:c<2^s.ids.length) (t:ic s c=true) (f:k<=a.length) (l:∀y∈a.drop k,Cg (gK s c) y=true) (j:k=0\/∃f:k - 1<a.length,¬Cg (gK s c) a[k - 1]=true):Us s (c+1) (a.take k++ [gK s c]++a.drop k):=by
 refine ⟨dI f h.o l j λg=>?_,λL=>?_,?_⟩
 .obtain ⟨y,r,u,o⟩:=(h.m_ _).1 g;have:=ZI i b (Nat.lt_trans r b) o;omega
 .rw [l7,h.m_]
  grind
 .have:=h.l
  grind
theorem Us.done (f:s.ids.Pairwise (· < ·)) (h:Us s (2^s.ids.length) a):a=fB s:=
 V7 (R:=λc b=>Cg c b=true) (λc b h=>Td h) h.o (Zm f) λL=>by rw [h.m_,ce]
section
variable {P:Program} {F:Fr} {s:AS} {d:Nat} {x y:Operand} {T T':TypeId} {ty:TypeId} {pos:String} {aft:Array Edge} {g:Option (Nat×Bool)} {k:IntKind} {a b:Int}
end
variable {a:List Int} {c:fj}
theorem Vg (b:a.Nodup) {j:Nat} (c:j<a.length):a[j]∉a.take j:=λh=>by
 obtain ⟨i,f,e⟩:=jX.1 h;rw [List.Nodup,iS] at b;exact b i j (by omega) c (by omega) e
theorem Xr {i:AI}:NC i=0↔(∀x∈i.af,(0<=x/\x<=1000000000)/\x≠i.id)/\i.af.Nodup:=by
 unfold NC;rw [Ul]
 constructor
 .intro h
  have c:∀k (f:k<i.af.length),(0<=i.af[k]/\i.af[k]<=1000000000)/\i.af[k]≠i.id/\i.af[k]∉i.af.take k:=λk f=>by
   have:=h k (Ψ.2 f)
   grind [MT]
  refine ⟨λx g=>?_,?_⟩
  .obtain ⟨k,f,rfl⟩:=ii.1 g
   grind
  .rw [List.Nodup,iS];intro a b o j l e;exact (c b j).2.2 (jX.2 ⟨a,by omega,e⟩)
 grind [ξ,MT,Vg]
theorem qC {m:List Int} (h:∀x,x∈a↔x∈m):Kf a=Kf m:=by grind [Kf]
theorem YJ {m:List Int} (h:a.Perm m) (f:Ms c (BN a)=[]):Ms c (BN m)=[]:=
 S2.2 λx b=>by
  have:=S2.1 f x b;have g:(BN a).Perm (BN m):=h.map _;rw [LR g] at this;exact this
structure tf (p:fj) (C:List Int):Prop where
 n:C.Nodup
 i:∀x∈C,x∈p.it.map AI.id
 a:gF p (Kf C)=[]
 v:Ms p (BN C)=[]
theorem tf.perm {C D:List Int} (h:tf c C) (a:C.Perm D):tf c D:=
 ⟨a.nodup_iff.1 h.n,λx b=>h.i x (a.mem_iff.2 b),by rw [<-qC λx=>a.mem_iff];exact h.a,YJ a h.v⟩
theorem tf.nil (b:Az c=0):tf c []:=⟨List.nodup_nil,λx a=>(by cases a),en c,aM b⟩
end Go.Proofs.YteifpcnphnhaoaaGreat
namespace Go.Proofs.YteifpcnphnhaoaaGreat
open Go.RowKit Go.Shelf
variable {a o:List Int} {c:Int}
theorem ly {p:fj} (h:rO p):Fw p:=⟨by have:=h.1;omega,by have:=h.2.1;omega,λi a=>by have:=h.2.2 i a;omega⟩
def WP (W:Int ->Int ->Bool) (c:Int) (l o:List Int):List Int:=l.foldl (λo x=>if (!decide (x∈o) && W c x)=true then o++ [x] else o) o
theorem MR {W:Int ->Int ->Bool} {b:Int}:WP W b (c::a) o=WP W b a (if (!decide (c∈o) && W b c)=true then o++ [c] else o):=rfl
theorem iv {W:Int ->Int ->Bool} {c:Int}:∀(l o:List Int) (x:Int),x∈WP W c l o↔x∈o\/(x∈l/\W c x=true)
 | [],o,x=>by unfold WP;simp
 | a::l,o,x=>by
  have g:=iv (W:=W) (c:=c) l (if (!decide (a∈o) && W c a)=true then o++ [a] else o) x;rw [MR,g,Υ]
  by_cases h:(!decide (a∈o) && W c a)=true
  .rw [ϱ h,υ,η];simp only [gW] at h
   constructor
   .rintro ((b | rfl) | b)
    .exact .inl b
    .exact .inr ⟨.inl Z,h.2⟩
    .exact .inr ⟨.inr b.1,b.2⟩
   .rintro (b | ⟨rfl | b,f⟩)
    .exact .inl (.inl b)
    .exact .inl (.inr Z)
    .exact .inr ⟨b,f⟩
  .rw [θ h]
   constructor
   .rintro (b | b)
    .exact .inl b
    .exact .inr ⟨.inr b.1,b.2⟩
   .rintro (b | ⟨rfl | b,f⟩)
    .exact .inl b
    .refine .inl (Classical.byContradiction λi=>h ?_);rw [f,gV i];rfl
    .exact .inr ⟨b,f⟩
theorem Ub {W:Int ->Int ->Bool} {c:Int}:∀(l o:List Int),o<+:WP W c l o
 | [],o=>List.prefix_refl o
 | a::l,o=>by
  rw [MR];refine List.IsPrefix.trans ?_ (Ub l _)
  split
  .exact List.prefix_append _ _
  .exact List.prefix_refl o
theorem PH {W:Int ->Int ->Bool} {c:Int}:∀(l o:List Int),o.Nodup ->(WP W c l o).Nodup
 | [],o,h=>h
 | a::l,o,h=>by
  rw [MR];refine PH l _ ?_
  split
  .rename_i b
   rw [gW] at b;have i:a∉o:=by simpa using b.1
   rw [jn];exact ⟨h,by simp,λx g y f e=>i (by rw [η.1 f] at e;exact e▸g)⟩
  .exact h
structure BI (l:List Int) (a:Int) (i:Nat) (o:List Int):Prop where
 le:i<=o.length
 nd:o.Nodup
 sb:∀x∈o,x∈a::l
theorem BI.len {i:Nat} (h:BI a c i o):o.length<=a.length+1:=by
 have:=DI h.nd h.sb;omega
theorem BI.step {W:Int ->Int ->Bool} {l:List Int} {a:Int} {i:Nat} {o:List Int} (h:BI l a i o) (g:i<o.length) (c:Int):BI l a (i+1) (WP W c l o):=
 ⟨gJ g (Ub l o).length_le,PH l o h.nd,λx f=>by
  rcases (iv l o x).1 f with b | b
  .exact h.sb x b
  .exact i5 _ b.1⟩
inductive ur (W:Int ->Int ->Bool) (l:List Int) (a:Int):Int ->Prop
 | refl:ur W l a a
 | step {y x:Int} (h:ur W l a y) (hx:x∈l) (hw:W y x=true):ur W l a x
theorem eN (a:List AT) (E:List (AI×Nat)):(gL a E).length<=E.length/\∀x∈gL a E,x.length<=E.length:=by grind [gL,jJ,Zo]
theorem dj (p:fj) (l:List Int):(DX p l).length<=p.it.length:=by grind [DX,aA]
theorem rp {l:List (List Int)} {n:Nat} (h:l.length<=n/\∀x∈l,x.length<=n) (a:n<=100000):l.length<=100000/\∀x∈l,x.length<=100000:=by grind
theorem pW (l:List (List Int)) (h:l.length<=100000/\∀x∈l,x.length<=100000):AK prog 18 [.d (XV l),.d (XV l)] (Ah true):=by grind [Lr]
theorem pz {E:List (AI×Nat)} {i:Nat} (a:i<E.length):DJ E i∈E.map Prod.fst:=by rw [SJ a];exact jW (ξ _)
structure vG (p:fj) (L:List Int) (W:List (List Int)) (c:List Int):Prop where
 two:2<=c.length
 len:c.length<=p.it.length
 nd:c.Nodup
 lg:∀x∈c,x∈fo p/\x∉DV p
 wt:∀x∈c,∃(m:Nat) (h:m<L.length) (h2:m<W.length),L[m]=x/\∃y,y∈W[m]/\y∈c
structure ut (p:fj) (S:List Int) (T:List (List Int)):Prop where
 sum:(T.map List.length).sum=S.length
 el:∀c∈T,c.Nodup/\c.length<=p.it.length/\∀x∈c,x∈S/\∃a,a∈p.it/\a.id=x
 ap:T.Pairwise λc d=>∀x∈c,∀y∈d,∀a b,a∈p.it ->b∈p.it ->a.id=x ->b.id=y ->¬J0 (ft p) a b
end Go.Proofs.YteifpcnphnhaoaaGreat
