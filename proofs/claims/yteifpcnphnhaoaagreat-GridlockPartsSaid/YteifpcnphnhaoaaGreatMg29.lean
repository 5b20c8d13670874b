import Derived.Test.YteifpcnphnhaoaaGreatMg28
open Go.Proofs.Tryz
namespace Go.Proofs.YteifpcnphnhaoaaGreat
open Go.RowKit
variable {g:List (List Nat)} {a:Nat ->Nat}
set_option maxRecDepth 100000
set_option maxHeartbeats 1000000 in
theorem Uw (g:List (List Nat)) (R:GT g):AT prog 134 [.d (LJ g)] [] λr H'=>∃of cnt,SccOf g.length (sucs g) of cnt/\r= .tup [.own 10 0 cnt,.d (natsD ((List.range g.length).map λv=>conM g of cnt (of v)))]/\H'=[(10,[.rowD 28 1 ((eR cnt (GO (λv=>conM g of cnt (of v)) g.length)).map natsD)])]:=by
 have hn:=R.gb.n;refine Ax func134 Z Z ntmps134 Z Z Z λF w=>(AD (AE (AB Z Z (AB Z Z (AC (AD (AE (goMv Z Z ?_))))))));refine Cd (Ve (Ux g R.gb) Z [2] ⟨Z,trivial⟩ Z Z Z Z (λr H' ⟨of,cnt,h1,h2,h3⟩=>by subst h2 h3;exact ⟨Z,Z,Z⟩) Z) Z ?_;rintro _ ⟨r,H',⟨of,cnt,o,rfl,rfl⟩,rfl⟩;refine goMv Z Z (J (DG Z Z Z) (J (DG Z Z Z) (AB Z Z (AB Z Z (AC (AD ?_))))));have hcn:=o.le;refine AE (goMv Z Z (V (FK 6 BT Z Z Z (by omega) zd3 Z Z Z Z) (V (CA 5 zl28 Z Z Z Z) (V (B4 Z Z Z Z Z Z Z Cv) (AC (AD (AD ?_)))))));rw [repN];refine AE (goMv Z Z (J (IQ Z (χ ..) underlying147 Z) (J (KL Z Z (Θ _ (by omega)) Z) (Jv 29 (.d (AF ((g.length:Int) - 1 - ((0:Nat):Int)))) Z (eqv (ωm AF (by omega))) (AB Z Z (AC (A2 (BO (α:=Nat) (λd=>⟨142,[(0,.d (LJ g)),(4,(.own 2 0 g.length)),(5,(.d (AO cnt))),(6,(.ptr 5 0 0)),(7,(.d (AF ((g.length:Int) - 1 - (d:Int)))))],[(2,[.rowD 3 1 (rowN g.length of)]),(5,[.blk 28 [.own 6 0 cnt]]),(6,[.rowD 3 1 (rowN cnt (lfT of g.length d))])]⟩) (λd=>d<=g.length) (λd=>g.length - d) (0) (ζ _) (AU w [2,5,6] Z Z ⟨Z,Z,Z,Z,Z,trivial⟩) ?_))))))));intro d hd;refine AD (AD (AE (goMv Z Z (J (EM Z Z Z) (AC (A7 Z (λh31=>?_) (λh31=>?_)))))))
 .refine AX (AD (A2 ?_));have L:g.length - 1 - d<g.length:=by omega
  refine Ww 7 (.d (AO (g.length - 1 - d))) Z (eqv (ωm AF (by omega))) ?_;have Y:=o.lt _ L;refine CD [[],[],[],[1,2],[1,2,3],[],rg 6,rg 7] mixed Z (Bt (Aj [6] Z Z (λ_=>A8 (AQ Z Z Z BF Z)) ?_));refine Ak 4 Z Z (Ak 7 Z Z (Aj [35,36] Z Z (λ_=>A8 (CM (g.length - 1 - d) Z Z (Z) (L) Z underlying28 BD Z)) (Aj [37] Z Z (λ_=>A8 (CY Z Z (JB L) Z Ai Z)) (Ak 7 Z Z (Bk 6 Z Z Z (Ab 7 Z Z (J (CM (of (g.length - 1 - d)) Z Z (Z) (Y) Z underlying28 BD Z) (AC ⟨Z,?_⟩))))))));refine Ab 8 Z Z (V (Sg Z Z Z Z Z (by rw [gB];exact Y) gC Z BD) (AC ⟨Z,?_⟩));refine Bx (AE (goMv Z Z (J (KL Z Z (Θ _ (by omega)) Z) (Jv 33 (.d (AF ((g.length:Int) - 1 - ((d+1:Nat):Int)))) Z (eqv (ωm AF (by omega))) (AB Z Z (AC ?_))))));exact ⟨d+1,by omega,by omega,AU w [2,5,6] Z (Z) ⟨Z,Z,Z,Z,Z,trivial⟩⟩
 .refine Ar (AD ?_);have hdn:d=g.length:=by omega
  subst hdn;refine AE (goMv Z Z (V (FK 7 X1 Z Z Z (by omega) zd28 Z Z Z Z) (AB Z Z (AC (AD (AD ?_))))));refine RY 7 0 (rowH cnt (λ_=>none) (λ_=> [])) Z (by rw [Fi,List.length_replicate]) (UB cnt) ⟨Xd _,Km _ _ _⟩ Z (IA 40 Z Z Z (AE (goMv Z Z (J (IQ Z (χ ..) underlying147 Z) (goMv Z Z (AC (A2 (BO (α:=Nat×MF×(Nat ->Hd)) (λq=>⟨142,[(0,.d (LJ g)),(4,(.own 2 0 g.length)),(5,(.d (AO cnt))),(6,(.ptr 5 0 0)),(8,(.own 7 0 cnt)),(43,(.d (LJ g))),(44,(.d (AO g.length))),(45,(.d (AO q.1)))],[(2,[.rowD 3 1 (rowN g.length of)]),(5,[.blk 28 [.own 6 0 cnt]]),(6,[.rowD 3 1 (rowN cnt (lfT of g.length g.length))]),(7,[.rowD 28 1 (rowH cnt q.2.2 (Ny g of q.1 0))]),(40,[.multi q.2.1])]⟩) (λq=>q.1<=g.length/\Nb q.2.1 cnt q.2.2 (Ny g of q.1 0)) (λq=>g.length - q.1) ((0,λ_=>none,λ_=>none)) (⟨ζ _,by rw [eu];exact Nb.zero _⟩) (AU w [2,5,6,7,40] Z Z ⟨Z,Z,Z,Z,Z,Z,Z,Z,trivial⟩) ?_))))))));rintro ⟨i,M,C⟩ ⟨hi,u⟩;dsimp only at hi u⊢;refine AD (AE (J (Az Z Z Z) (AC (AD (A7 Z (λQ=>?_) (λQ=>?_))))))
  .refine AX (AD (A2 (AD ?_)));have l:i<g.length:=BR Q;have n:=o.lt i l;refine AE (goMv Z Z (J (BC (i) Z Z (Z) (Ub l) underlying147 Z Cv Z) (J (CF Z Z BF Z) (AB Z Z (AB Z Z ?_)))));refine AC (AD (AE (goMv Z Z (J (IQ Z (χ ..) underlying28 Z) (goMv Z Z (AC (A2 (BO (α:=Nat×MF×(Nat ->Hd)) (λq=>⟨142,[(0,.d (LJ g)),(4,(.own 2 0 g.length)),(5,(.d (AO cnt))),(6,(.ptr 5 0 0)),(8,(.own 7 0 cnt)),(9,(.d (AO i))),(43,(.d (LJ g))),(44,(.d (AO g.length))),(45,(.d (AO i))),(50,(.d (natsD (sucs g i)))),(51,(.d (AO (sucs g i).length))),(52,(.d (AO q.1)))],[(2,[.rowD 3 1 (rowN g.length of)]),(5,[.blk 28 [.own 6 0 cnt]]),(6,[.rowD 3 1 (rowN cnt (lfT of g.length g.length))]),(7,[.rowD 28 1 (rowH cnt q.2.2 (Ny g of i q.1))]),(40,[.multi q.2.1])]⟩) (λq=>q.1<=(sucs g i).length/\Nb q.2.1 cnt q.2.2 (Ny g of i q.1)) (λq=>(sucs g i).length - q.1) ((0,M,C)) (⟨ζ _,u⟩) (AU w [2,5,6,7,40] Z Z ⟨Z,Z,Z,Z,Z,Z,Z,Z,Z,Z,Z,Z,trivial⟩) ?_))))))));rintro ⟨k,M,C⟩ ⟨hk,u⟩;dsimp only at hk u⊢;refine AD (AE (J (Az Z Z Z) (AC (AD (A7 Z (λP=>?_) (λP=>?_))))))
   .refine AX (AD (A2 (AD ?_)));have m:k<(sucs g i).length:=BR P;have hgn:=N6 m;have hsl:=R.gb.len l;have A:nth (sucs g i) k<g.length:=R.gb.suc l (DR m);have D:=ew (of:=of) m;have E:=ez (of:=of) m
    obtain ⟨j,hje⟩:∃j,nth (sucs g i) k=j:=⟨_,Z⟩
    rw [hje] at hgn A D E;have hln:=YV g of i k (of i);have hlt:=ωa (QW g (Nat.le_of_lt l)) R.tot;have hlt2:((sucs g i).take k).length<=1048576:=by rw [ϱ];omega
    refine AE (J (BC (k) Z Z (Z) (hgn) underlying28 Z BD Z) ?_);refine J (CF Z Z Ai Z) (AB Z Z (AC (AD (CD [[],[],[0,1],[0,1,2],[],[],[4,5],[4,5,6],rg 8] mixed Z (Bt (Ak 4 Z Z (Ak 9 Z Z (Aj [56,57] Z Z (λ_=>A8 (CM (i) Z Z (Z) (l) Z underlying28 BD Z)) ?_))))))));refine Aj [58] Z Z (λ_=>A8 (CY Z Z (JB l) Z Ai Z)) (Ak 4 Z Z (Ak 12 Z Z (Aj [60,61] Z Z (λ_=>A8 (CM (j) Z Z (Z) (A) Z underlying28 BD Z)) (Aj [62] Z Z (λ_=>A8 (CY Z Z (JB A) Z Ai Z)) (Bk 8 Z Z Z (Ab 9 Z Z (J (C7 Z Z Z) (AC ⟨Z,?_⟩))))))));refine Bx (A7 Z (λO=>?_) (λO=>?_))
    .have s:=D (λe=>O (ωm Int.ofNat e));refine CD [[],[],[],[1,2],[1,2,3],[],[],[],[6,7],[6,7,8],[5,6,7,8,9],[5,6,7,8,9,10],[],[],[12,13],[12,13,14],[12,13,14,15],[5,6,7,8,9,10,11,12,13,14,15,16],rg 18,rg 19] mixed Z (Bt (Ak 8 Z Z (Ak 4 Z Z (Ak 9 Z Z (As [66,67] [2] Z Z (λ_=>A8 (CM (i) Z Z (Z) (l) Z underlying28 BD Z)) (As [68] [2] Z Z (λ_=>A8 (CY Z Z (JB l) Z Ai Z)) ?_))))));refine Ak 8 Z Z (Ak 4 Z Z (Ak 9 Z Z (As [71,72] [2] Z Z (λ_=>A8 (CM (i) Z Z (Z) (l) Z underlying28 BD Z)) (As [73] [2] Z Z (λ_=>A8 (CY Z Z (JB l) Z Ai Z)) (As [70,74] [7] Z Z (λ_=>A8 (CM (of i) Z Z (Z) (n) Z underlying147 Cv Z)) (As [75] [7] Z Z (λ_=>A8 (CY Z Z (Kb n) Z BF Z)) (Ak 4 Z Z (Ak 12 Z Z ?_))))))));refine As [77,78] [2] Z Z (λ_=>A8 (CM (j) Z Z (Z) (A) Z underlying28 BD Z)) (As [79] [2] Z Z (λ_=>A8 (CY Z Z (JB A) Z Ai Z)) (F5 [80] [21] [(81,_)] Z Z (λ_=>F6 (C1 21 BT Z Z Z Z Z Z Z Z)) (.inr ⟨81,_,Z,Z,Z,Z,Z⟩) Z Z Z Z Z (F5 [76,81] [60,40,21] [(82,_)] Z Z (λ_=>F6 (H4 76 60 40 (u.at_ (of i) n) Z Z (by rw [χ]) Z Z Z Z Z (Eu (emb:=AO) (Ny g of i k (of i)) [of j] Z Z Z Z Z Z Z Z BT (by show ((Ny g of i k (of i)).length+1)*8<=_;omega) Z Z Z Z))) (.inr ⟨82,_,Z,Z,Z,Z,Z⟩) Z Z Z Z Z (Bk 18 Z Z Z (Ab 19 Z Z (FZ 82 60 40 w Z Z Z (by rw [χ]) (by simp) Z Z Z Z Z Z Z (λ_ _=>rfl) λb c hb hc=>(J (CM (of i) Z Z (Z) (n) Z underlying147 Cv Z) (AC ⟨Z,?_⟩))))))));refine Ab 20 Z Z (V (Sg Z Z Z Z Z (by rw [Fi];exact n) (T3 (h:=some (b,c))) Z Cv) (AC ⟨Z,?_⟩));refine Bx (AE (J (Ah Z Z (Θ _ (by omega)) Z) (goMv Z Z (AC ?_))));exact ⟨(k+1,B6 (Bj M (C (of i))) b (.row 3 1 c ((Ny g of i k (of i)++ [of j]).map AO)),BL C (of i) (some (b,c))),⟨m,by have:=u.app n hb hc;rw [s] at this;exact this⟩,by show (sucs g i).length - (k+1)<(sucs g i).length - k;omega,AU w [2,5,6,7,40] Z (by rw [s];rfl) ⟨Z,Z,Z,Z,Z,Z,Z,Z,Z,Z,Z,Z,trivial⟩⟩
    .have T:=E (λh=>O (λe=>h (Int.ofNat.inj e)));refine AX (AE (J (Ah Z Z (Θ _ (by omega)) Z) (goMv Z Z (AC ?_))));exact ⟨(k+1,M,C),⟨m,by rw [<-T];exact u⟩,by show (sucs g i).length - (k+1)<(sucs g i).length - k;omega,AU w [2,5,6,7,40] Z (by rw [<-T];rfl) ⟨Z,Z,Z,Z,Z,Z,Z,Z,Z,Z,Z,Z,trivial⟩⟩
   .refine Ar ?_;have hke:k=(sucs g i).length:=by have:=P;omega
    subst hke;refine AE (J (Ah Z Z (Θ _ (by omega)) Z) (goMv Z Z (AC ?_)));exact ⟨(i+1,M,C),⟨l,by rw [<-YU];exact u⟩,by show g.length - (i+1)<g.length - i;omega,AU w [2,5,6,7,40] Z (by rw [YU];rfl) ⟨Z,Z,Z,Z,Z,Z,Z,Z,trivial⟩⟩
  .refine Ar (AD ?_);have H:i=g.length:=by have:=Q;omega
   subst H;refine fw 7 0 40 ((L0 g of cnt).map natsD) Z Z Z Z Z (by rw [χ,L0,VY,Fi]) u.melt ⟨Km _ _ _,cx _⟩ Z (KP (emb:=natsD) 8 7 (L0 g of cnt) Z Z Z (VY _ _).symm Z Z Z ?_);rw [cL cnt];have hll:=lfL_len of g.length cnt;have hob:=ct (V9 of g.length cnt) (L0 g of cnt) (edG_gb R o) (by rw [L0,VY];exact lf_inj o) (by rw [L0,VY,hll]);rw [<-V9,show (AV.own 6 0 cnt)= .own 6 0 (V9 of g.length cnt).length by rw [hll]];refine AE (goMv Z Z ?_);refine J (ZcN Z Z) (V (FG hob Z [5,6] ⟨Z,Z,trivial⟩ Z Z Z Z Z Z Z Z Z) (goMv Z Z (J (Di Z Z Z) (J (Di Z Z Z) (AB Z Z (AB Z Z (AC (AD ?_))))))));have hsq:ordG (L0 g of cnt) (nth (V9 of g.length cnt))=conS g of cnt:=rfl;have t:=cv (L0 g of cnt) (nth (V9 of g.length cnt));have y:∀k,k<(conS g of cnt).length ->nth (conS g of cnt) k<cnt:=λk hk=>by have:=ordG_lt (g:=L0 g of cnt) (K:=nth (V9 of g.length cnt)) hk;rwa [L0,VY] at this
   rw [L0,VY,<-L0] at t;rw [hsq] at t⊢;refine AE (goMv Z Z (V (FK 9 BT Z Z Z (by omega) zd3 Z Z Z Z) (AB Z Z (AC (AD (AD ?_))))));rw [repN]
   obtain ⟨a,z⟩:∃a,conS g of cnt=a:=⟨_,Z⟩
   rw [z] at t y⊢;refine AE (goMv Z Z (J (IQ Z (χ ..) underlying28 Z) (goMv Z Z (AC (A2 (BO (α:=Nat) (λk=>⟨142,[(0,.d (LJ g)),(4,(.own 2 0 g.length)),(5,(.d (AO cnt))),(15,(.own 9 0 cnt)),(94,(.d (natsD a))),(95,(.d (AO a.length))),(96,(.d (AO k)))],[(2,[.rowD 3 1 (rowN g.length of)]),(9,[.rowD 3 1 (rowN cnt (Dj a k))])]⟩) (λk=>k<=a.length) (λk=>a.length - k) (0) (ζ _) (AU w [2,9] Z Z ⟨Z,Z,Z,Z,Z,Z,Z,trivial⟩) ?_))))));intro k hk;refine AD (AE (J (Az Z Z Z) (AC (AD (A7 Z (λN=>?_) (λN=>?_))))))
   .refine AX (AD (A2 (AD ?_)));have m:k<a.length:=BR N;refine AE (goMv Z Z (J (BC (k) Z Z (Z) (N6 m) underlying28 Z BD Z) (J (CF Z Z Ai Z) (AB Z Z (AB Z Z (AC (AE (goMv Z Z ?_))))))));refine goMv Z Z (goMv Z Z (J (CM (nth a k) Z Z (Z) (y k m) Z underlying28 BD Z) (V (Sg Z Z Z Z Z (by rw [gB];exact y k m) gC Z BD) (AC (AE (J (Ah Z Z (Θ _ (by omega)) Z) (goMv Z Z (AC ?_))))))));exact ⟨k+1,m,by omega,AU w [2,9] Z (Z) ⟨Z,Z,Z,Z,Z,Z,Z,trivial⟩⟩
   .refine Ar (AD ?_);have hks:k=a.length:=by have:=N;omega
    subst hks;refine AE (goMv Z Z (V (FK 10 OZ Z Z Z (by omega) zd28 Z Z Z Z) (AB Z Z (AC (AD (AD (RY 10 0 (rowH cnt (λ_=>none) (λ_=> [])) Z (by rw [Fi,List.length_replicate]) (UB cnt) ⟨Xd _,Km _ _ _⟩ Z (IA 40 Z Z Z ?_))))))));have hno:∀v,v<g.length ->Dj a a.length (of v)<cnt:=λv hv=>Xp a (Nat.lt_of_le_of_lt (ζ _) (o.lt v hv)) t _ (Γ _) _;refine AE (goMv Z Z (J (IQ Z (χ ..) underlying147 Z) (goMv Z Z (AC (A2 (BO (α:=Nat×MF×(Nat ->Hd)) (λq=>⟨142,[(0,.d (LJ g)),(4,(.own 2 0 g.length)),(15,(.own 9 0 cnt)),(18,(.own 10 0 cnt)),(109,(.d (AO g.length))),(110,(.d (AO q.1)))],[(2,[.rowD 3 1 (rowN g.length (ofT of (λv=>Dj a a.length (of v)) q.1))]),(9,[.rowD 3 1 (rowN cnt (Dj a a.length))]),(10,[.rowD 28 1 (rowH cnt q.2.2 (GO (λv=>Dj a a.length (of v)) q.1))]),(40,[.multi q.2.1])]⟩) (λq=>q.1<=g.length/\Nb q.2.1 cnt q.2.2 (GO (λv=>Dj a a.length (of v)) q.1)) (λq=>g.length - q.1) ((0,λ_=>none,λ_=>none)) (⟨ζ _,Nb.zero _⟩) (AU w [2,9,10,40] Z Z ⟨Z,Z,Z,Z,Z,Z,trivial⟩) ?_))))));rintro ⟨i,M,C⟩ ⟨hi,u⟩;dsimp only at hi u⊢;refine AD (AE (J (Az Z Z Z) (AC (AD (A7 Z (λB=>?_) (λB=>?_))))))
    .refine AX (AD (A2 (AD ?_)));have l:i<g.length:=BR B;have n:=o.lt i l;have s:=Z5 (λv=>Dj a a.length (of v)) i;have G:=dB of (λv=>Dj a a.length (of v)) i;have p:=hno i l;have X:ofT of (λv=>Dj a a.length (of v)) i i=of i:=η (φe _);have W:ofT of (λv=>Dj a a.length (of v)) (i+1) i=Dj a a.length (of i):=ς (ψp _);have hgo:=JB (f:=ofT of (λv=>Dj a a.length (of v)) i) l;have I:=JB (f:=ofT of (λv=>Dj a a.length (of v)) (i+1)) l;rw [X] at hgo;have U:=JB (f:=Dj a a.length) n
     first | dsimp only at s G | skip
     obtain ⟨x,S⟩:∃x,Dj a a.length (of i)=x:=⟨_,Z⟩
     rw [W,S] at I;rw [S] at s G p U;have hln:=cr (λv=>Dj a a.length (of v)) i x;refine AE (goMv Z Z (AB Z Z (AC ?_)));refine AD (AE (goMv Z Z (goMv Z Z (goMv Z Z (goMv Z Z (goMv Z Z (J (CM (i) Z Z (Z) (l) Z underlying28 BD Z) (J (CY Z Z (hgo) Z Ai Z) ?_))))))));refine J (CM (of i) Z Z (Z) (n) Z underlying28 BD Z) (J (CY Z Z (U) Z Ai Z) (J (CM (i) Z Z (Z) (l) Z underlying28 BD Z) (V (Sg Z Z Z Z Z (by rw [gB];exact l) (gC.trans (by rw [G])) Z BD) (AC (CD [[],[],[],[1,2],[1,2,3],[],[],[],[6,7],[6,7,8],[5,6,7,8,9],[5,6,7,8,9,10],[],[12],[5,6,7,8,9,10,11,12,13],rg 15,rg 16] mixed Z (Bt (Ak 18 Z Z (Ak 4 Z Z ?_))))))));refine Ak 19 Z Z (As [124,125] [2] Z Z (λ_=>A8 (CM (i) Z Z (Z) (l) Z underlying28 BD Z)) (As [126] [2] Z Z (λ_=>A8 (CY Z Z (I) Z Ai Z)) (Ak 18 Z Z (Ak 4 Z Z (Ak 19 Z Z (As [129,130] [2] Z Z (λ_=>A8 (CM (i) Z Z (Z) (l) Z underlying28 BD Z)) (As [131] [2] Z Z (λ_=>A8 (CY Z Z (I) Z Ai Z)) (As [128,132] [10] Z Z (λ_=>A8 (CM (x) Z Z (Z) (p) Z underlying29 Cv Z)) ?_))))))));refine As [133] [10] Z Z (λ_=>A8 (CY Z Z (Kb p) Z BF Z)) (Ak 19 Z Z (F5 [135] [21] [(136,_)] Z Z (λ_=>F6 (C1 21 BT Z Z Z Z Z Z Z Z)) (.inr ⟨136,_,Z,Z,Z,Z,Z⟩) Z Z Z Z Z (F5 [134,136] [60,40,21] [(137,_)] Z Z (λ_=>F6 (H4 134 60 40 (u.at_ x p) Z Z (by rw [χ]) Z Z Z Z Z (Eu (emb:=AO) (GO (λv=>Dj a a.length (of v)) i x) [i] Z Z Z Z Z Z Z Z BT (by show ((GO (λv=>Dj a a.length (of v)) i x).length+1)*8<=_;omega) Z Z Z Z))) (.inr ⟨137,_,Z,Z,Z,Z,Z⟩) Z Z Z Z Z (Bk 15 Z Z Z (Ab 16 Z Z (FZ 137 60 40 w Z Z Z (by rw [χ]) (by simp) Z Z Z Z Z Z Z (λ_ _=>rfl) λb c hb hc=>(J (CM (x) Z Z (Z) (p) Z underlying29 Cv Z) (AC ⟨Z,?_⟩))))))));refine Ab 17 Z Z (V (Sg Z Z Z Z Z (by rw [Fi];exact p) (T3 (h:=some (b,c))) Z Cv) (AC ⟨Z,?_⟩));refine Bx (AE (J (Ah Z Z (Θ _ (by omega)) Z) (goMv Z Z (AC ?_))));exact ⟨(i+1,B6 (Bj M (C x)) b (.row 3 1 c ((GO (λv=>Dj a a.length (of v)) i x++ [i]).map AO)),BL C x (some (b,c))),⟨l,by have:=u.app p hb hc;rw [s] at this;exact this⟩,by show g.length - (i+1)<g.length - i;omega,AU w [2,9,10,40] Z (by rw [s];rfl) ⟨Z,Z,Z,Z,Z,Z,trivial⟩⟩
    .refine Ar (AD ?_);have H:i=g.length:=by have:=B;omega
     subst H;have hof:rowN g.length (ofT of (λv=>Dj a a.length (of v)) g.length)=((List.range g.length).map λv=>Dj a a.length (of v)).map AO:=by rw [ωt];exact ωe λv hv=>ωm AO (ς (Ψ.1 hv))
     rw [hof];refine fw 10 0 40 ((eR cnt (GO (λv=>Dj a a.length (of v)) g.length)).map natsD) Z Z Z Z Z (by rw [χ,VY,Fi]) u.melt ⟨Km _ _ _,cx _⟩ Z (KP (emb:=AO) 4 2 ((List.range g.length).map λv=>Dj a a.length (of v)) Z Z Z (by simp) Z Z Z (AE (goMv Z Z (goMv Z Z (AB Z Z (AB Z Z (AC (AZ ?_))))))));exact ⟨_,[10],_,AY Z,Z,Z,of,cnt,o,by unfold conM;rw [z],by unfold conM;rw [z]⟩
noncomputable def conC (g:List (List Nat)):(Nat ->Nat)×Nat:=Classical.epsilon λp=>CN g.length (sucs g) p.1 p.2
noncomputable def noC (g:List (List Nat)):Nat ->Nat:=(conC g).1
noncomputable def cntC (g:List (List Nat)):Nat:=(conC g).2
theorem S2 (e:GB g) {cnt:Nat} (h:CN g.length (sucs g) a cnt):CN g.length (sucs g) (noC g) (cntC g)/\cnt=cntC g/\∀v,v<g.length ->a v=noC g v:=by
 have b:CN g.length (sucs g) (conC g).1 (conC g).2:=Classical.epsilon_spec (p:=λp:(Nat ->Nat)×Nat=>CN g.length (sucs g) p.1 p.2) ⟨(a,cnt),h⟩;exact ⟨b,cn_uniq h b λv d y c=>e.suc d c⟩
noncomputable def comC (g:List (List Nat)):List (List Nat):=eR (cntC g) (GO (noC g) g.length)
noncomputable def noL (g:List (List Nat)):List Nat:=(List.range g.length).map (noC g)
theorem WQ {b:Nat ->Nat} {n:Nat} (h:∀v,v<n ->a v=b v):GO a n=GO b n:=by grind [GO,χr]
theorem Uv (g:List (List Nat)) (b:GT g):AT prog 134 [.d (LJ g)] [] λr f=>r= .tup [.own 10 0 (cntC g),.d (natsD (noL g))]/\f=[(10,[.rowD 28 1 ((comC g).map natsD)])]:=
 (Uw g b).mono λr f ⟨c,cnt,a,i,l⟩=>by
  obtain ⟨_,m,e⟩:=S2 b.gb (Wn b a);have j:=WQ e;have k:(List.range g.length).map (λv=>conM g c cnt (c v))=noL g:=ωe λv h=>e v (Ψ.1 h);rw [i,l,j,k,m];exact ⟨Z,Z⟩
def toI (g:List (List Nat)):List (List Int):=g.map (List.map Int.ofNat)
theorem toI_gr (g:List (List Nat)):grI (toI g)=LJ g:=by simp [*,toI]
theorem KU (g:List (List Nat)):(toI g).length=g.length:=by simp [toI]
theorem XK (g:List (List Nat)):∀i,i<=g.length ->Lm (toI g) i=Jm g i
 | 0,_=>rfl
 | i+1,b=>by
  have a:=XK g i (by omega);rw [Ll (by rw [KU];omega),a];unfold Jm;rw [ωy,Ω,χt,List.map_singleton,List.sum_singleton,Fd (by omega)]
  simp [toI]
theorem chk_ok (a:GT g):VI (toI g)=0:=by
 have h:=a.gb.n;have f:=a.tot;refine (chk0 (by rw [KU];omega) (by rw [KU,XK g _ (Γ _)];omega) ?_).symm;rintro ⟨l,e,x,c,i⟩;obtain ⟨m,d,rfl⟩:=Ξ.1 e;obtain ⟨y,b,rfl⟩:=Ξ.1 c;have:=a.gb.lt m d y b
 grind [KU]
theorem row_tot {l:List Nat} (h:l∈g):l.length<=Jm g g.length:=by
 obtain ⟨i,a,rfl⟩:=ψb.1 h
 have b:Jm g (i+1)=Jm g i+g[i].length:=by
  grind [Jm,ωy,Fd]
 have:=QW g (i:=i+1) (j:=g.length) (by omega);omega
theorem check_n (g:List (List Nat)) (a:GT g):AM prog 133 [.d (LJ g)] (AF 0):=by
 have f:=a.gb.n;have e:=a.tot
 have h:=fZ (toI g) (by rw [KU];omega) λl c=>by
  obtain ⟨m,b,rfl⟩:=Ξ.1 c;rw [χ];have:=row_tot b;omega
 rw [toI_gr,chk_ok a] at h;exact h
theorem S3 (g:List (List Nat)) (a:GT g):AT prog 80 [.d (LJ g)] [] λr b=>r= .tup [.own 10 0 (cntC g),.d (AF 0)]/\b=[(10,[.rowD 28 1 ((comC g).map natsD)])]:=by
 refine Ax func80 Z Z ntmps80 Z Z Z λF c=>?_;refine AD (AE (AB Z Z (AB Z Z (AC (AD (AD (AE (goMv Z Z ?_))))))));refine J (Aw (check_n g a) Z Z) (AB Z Z (AC (AD (AE (goMv Z Z (J (C7 Z Z Z) (AC (Cu Z (ωh (by decide)) ?_))))))));refine AX (AD (AE (goMv Z Z (V (FG (Uv g a) Z [10] ⟨Z,trivial⟩ Z Z Z Z Z Z Z Z Z) (goMv Z Z (J (DG Z Z Z) (J (DG Z Z Z) (AB Z Z ?_))))))));refine AB Z Z (AC (AD (AE (goMv Z Z (AB Z Z (AB Z Z (AC (AZ ?_))))))));exact ⟨_,[10],_,AY Z,Z,Z,Z,Z⟩
theorem cS (a:Nat ->List Nat) (v:Nat):∃y,(Rh a v y/\Rh a y v)/\∀z,Rh a v z/\Rh a z v ->y<=z:=exmin (λu=>Rh a v u/\Rh a u v) v v ⟨.refl v,.refl v⟩ (Γ _)
noncomputable def repF (suc:Nat ->List Nat) (v:Nat):Nat:=Classical.choose (cS suc v)
theorem Gv (a:Nat ->List Nat) (v:Nat):(Rh a v (repF a v)/\Rh a (repF a v) v)/\∀z,Rh a v z/\Rh a z v ->repF a v<=z:=Classical.choose_spec (cS a v)
theorem X3 {a:Nat ->List Nat} {i j:Nat}:repF a i=repF a j↔Rh a i j/\Rh a j i:=by
 obtain ⟨c,f⟩:=Gv a i;obtain ⟨b,d⟩:=Gv a j
 constructor
 .intro e;rw [<-e] at b;exact ⟨c.1.trans b.2,b.1.trans c.2⟩
 .intro h;exact Nat.le_antisymm (f _ ⟨h.1.trans b.1,b.2.trans h.2⟩) (d _ ⟨h.2.trans c.1,c.2.trans h.1⟩)
theorem cB (n:Nat) (a:Nat ->List Nat):∃k cnt,SccOf n a k cnt:=by
 let b:=(List.range n).filter λv=>decide (repF a v=v)
 have l:b.Nodup:=List.nodup_range.filter _;have f:∀v,repF a v<=v:=λv=>(Gv a v).2 v ⟨.refl v,.refl v⟩;have g:∀v,repF a (repF a v)=repF a v:=λv=>X3.2 ⟨(Gv a v).1.2,(Gv a v).1.1⟩;have h:∀v,v<n ->repF a v∈b:=λv d=>ωc.2 ⟨Ψ.2 (Nat.lt_of_le_of_lt (f v) d),ωf (g v)⟩;refine ⟨λv=>b.idxOf (repF a v),b.length,⟨λv d=>χi (h v d),λi j m p=>?_,λc o=>?_,?_⟩⟩
 .rw [<-X3]
  constructor
  .intro e;have s:=List.getElem_idxOf (χi (h i m))
   grind
  grind
 .obtain ⟨r,q⟩:=ωc.1 (ϑ o)
  grind
 grind
theorem fQ (g:List (List Nat)) (a:GT g):CN g.length (sucs g) (noC g) (cntC g):=by
 obtain ⟨b,cnt,h⟩:=cB g.length (sucs g);exact (S2 a.gb (Wn a h)).1
end Go.Proofs.YteifpcnphnhaoaaGreat
namespace Go.Proofs.YteifpcnphnhaoaaGreat
open Go.RowKit Go.Shelf
variable {g:List (List Nat)} {x:List Nat} {p:Prb} {a:List D} {M:MF} {i:Nat} {c:List AW} {E:List (AJ×Nat)} {d:D} {e f h j:Nat} {k m:Int} {n:List Int} {o q:Nat} {N:MF} {s:Nat}
set_option maxRecDepth 100000
def Ku (g:List (List Nat)) (i j:Nat):Prop:=Rh (sucs g) i j/\Rh (sucs g) j i
theorem Qq (g:List (List Nat)) (i:Nat):Ku g i i:=⟨.refl i,.refl i⟩
theorem Zk (h:Ku g i j):Ku g j i:=⟨h.2,h.1⟩
theorem Oq (h:Ku g i j) (a:Ku g j s):Ku g i s:=⟨h.1.trans a.1,a.2.trans h.2⟩
noncomputable def clsM (g:List (List Nat)) (i:Nat):List Nat:=(List.range g.length).filter λj=>dec (Ku g i j)
noncomputable def fstM (g:List (List Nat)):List Nat:=(List.range g.length).filter λi=>dec (∀j,j<i ->¬Ku g i j)
noncomputable def cirG (g:List (List Nat)):List (List Nat):=lgs ((fstM g).map (clsM g))
theorem VC:j∈clsM g i↔j<g.length/\Ku g i j:=by
 unfold clsM;rw [ωc,Ψ,FT]
theorem PQ:i∈fstM g↔i<g.length/\∀j,j<i ->¬Ku g i j:=by
 unfold fstM;rw [ωc,Ψ,FT]
theorem clsM_eq (h:Ku g i j):clsM g i=clsM g j:=by grind [clsM,FT,Oq,Zk]
theorem VB (g:List (List Nat)) (i:Nat):(clsM g i).Pairwise (· < ·):=List.Pairwise.sublist ψj List.pairwise_lt_range
theorem Uc (g:List (List Nat)):(fstM g).Pairwise (· < ·):=List.Pairwise.sublist ψj List.pairwise_lt_range
theorem S7 (h:i∈fstM g):hdi (clsM g i)=(i:Int):=by
 obtain ⟨j,f⟩:=PQ.1 h;have b:i∈clsM g i:=VC.2 ⟨j,Qq g i⟩;have c:=VB g i;unfold hdi
 cases hc:clsM g i with
 | nil=>rw [hc] at b;cases b
 | cons a t=>
  rw [hc] at b c;show ((a:Nat):Int)=_;have d:a∈clsM g i:=by rw [hc];exact ωu
  rcases Υ.1 b with e | e
  .rw [e]
  .have:=List.rel_of_pairwise_cons c e;exact absurd (VC.1 d).2 (f a this)
theorem fstM_ex (i:Nat) (a:i<g.length):∃k,k∈fstM g/\Ku g i k:=by
 induction i using Nat.strongRecOn with
 | ind i b=>
  by_cases h:∀j,j<i ->¬Ku g i j
  .exact ⟨i,PQ.2 ⟨a,h⟩,Qq g i⟩
  grind [Oq]
theorem Tn (c:GT g) {v:Nat} (b:v<g.length):GO (noC g) g.length (noC g v)=clsM g v:=by
 have d:=fQ g c;unfold GO clsM
 exact χr λw a=>by
  rw [φi,decide_eq_true_iff,FT];rw [eq_comm];exact d.scc v w b (Ψ.1 a)
theorem Ky {l:List (List Nat)}:x∈lgs l↔x∈l/\2<=x.length:=by
 unfold lgs Hv;rw [ωc];simp
theorem Uy (b:GT g):x∈comC g↔∃i,i∈fstM g/\x=clsM g i:=by
 have d:=fQ g b;unfold comC eR;rw [Ξ]
 constructor
 .rintro ⟨c,f,rfl⟩;obtain ⟨v,h,rfl⟩:=d.use c (Ψ.1 f)
  grind [fstM_ex,Tn,clsM_eq]
 .rintro ⟨i,e,rfl⟩;have a:=(PQ.1 e).1;exact ⟨noC g i,Ψ.2 (d.lt i a),Tn b a⟩
theorem P5 (d:GT g):(comC g).Nodup:=by
 have f:=fQ g d;unfold comC eR;rw [List.Nodup,ψc];refine χz (R:=λa b=>a<b) (λ{a b} i j h e=>?_) List.pairwise_lt_range;obtain ⟨v,c,rfl⟩:=f.use a (Ψ.1 i);have k:v∈GO (noC g) g.length (noC g v):=by unfold GO;rw [ωc];exact ⟨Ψ.2 c,by simp⟩
 grind [GO]
theorem VG (a:GT g):x∈cirG g↔x∈lgs (comC g):=by grind [cirG,Ky,Uy]
theorem NK (g:List (List Nat)):(cirG g).Pairwise λa b=>hdi a<hdi b:=by grind [cirG,lgs,χz,Uc,S7]
theorem fX {y:List Nat} (b:x∈cirG g) (a:y∈cirG g) (h:hdi x=hdi y):x=y:=by
 unfold cirG at b a;obtain ⟨i,d,rfl⟩:=Ξ.1 (Ky.1 b).1;obtain ⟨j,c,rfl⟩:=Ξ.1 (Ky.1 a).1;rw [S7 d,S7 c] at h;rw [Int.ofNat_inj.1 h]
theorem VH (d:GT g) (c:List (List Nat)) (e:c.Perm (lgs (comC g))) (k:c.Pairwise λa b=>¬hdi b - hdi a<0):c=cirG g:=by
 have f:c.Nodup:=e.nodup_iff.2 (List.Nodup.sublist ψj (P5 d));have i:∀x,x∈c↔x∈cirG g:=λx=>by rw [e.mem_iff,VG d]
 refine DV (R:=λa b=>hdi a<hdi b) (λx h=>by omega) (λx y z h n=>by omega) ?_ (NK g) i;refine χz (λ{a b} m l j=>?_) (List.Pairwise.and k f)
 grind [fX]
theorem cir_swo:Go.Sort.SWO (ltOf λa b:List Nat=>hdi a - hdi b):=by
 refine ⟨λx=>?_,λx y z h c=>?_,λx y z h c=>?_⟩
 all_goals (grind [ltOf])
theorem AT.fnArgA {P:Program} {f g:FuncId} {x:AV} {H:Hp} {R:AV ->Hp ->Prop} (h:AT P f [x,.d (.fn g [] [])] H R):AT P f [x,.d (.raw (.func (.func g) #[] #[]))] H R:=
 ⟨h.1,λF n vs s r k q p m=>h.2 F n vs s r k q p λi a v j l=>by
  rcases i with _ | _ | i
  .exact m 0 _ v j l
  .have e:a= .d (.fn g [] []):=by simpa using j.symm
   subst e;have:=m 1 _ v Z l
   cases this with
   | d o=>
    cases o with
    | raw _=>exact .d (.fn (us:=[]) (vs:=[]) Z Z (λi c v b=>by simp at b) λi c v b=>by simp at b)
  .simp at j⟩
theorem HT.l {N:MF} (h:HT M q n):HT (munion M N) q n:=by
 obtain ⟨m,c,a⟩:=h;exact ⟨m,Ia c,Ia a⟩
theorem HT.r {l:List Int} (g:∀i m a,M i=some m ->N i=some a ->False) (h:HT N q l):HT (munion M N) q l:=by
 obtain ⟨m,f,d⟩:=h
 have c:∀{i a},N i=some a ->M i=none:=λ{i a} h=>by
  cases e:M i with
  | none=>rfl
  | some x=>exact (g i _ _ e h).elim
 exact ⟨m,Kv (c f) f,Kv (c d) d⟩
theorem HT.put {f:Nat} {o:Ap} (h:HT N q n) (d:N f=none):HT (B6 N f o) q n:=by
 obtain ⟨m,c,a⟩:=h;exact ⟨m,by rw [IB (λe=>by rw [e,d] at c;cases c)];exact c,by rw [IB (λe=>by rw [e,d] at a;cases a)];exact a⟩
abbrev C1F:FuncId:=79
def inC (L G:List Int) (id:Int):Bool:=decide (id∈L) && !decide (id∈G)
theorem circ1_c {i h e g:Nat} {L G:List Int} (b:N i=some (.cells 124 [Pq e])) (a:N h=some (.cells 124 [Pq g])) (j:HT N e L) (k:HT N g G) (id:Int):
  AT prog C1F [.d (AF id),.d (pD i 0),.d (pD h 0)] [(41,[.multi N])] λr l=>r= .d (Am (inC L G id))/\l=[(41,[.multi N])]:=by
 refine Ax func79 Z Z ntmps79 Z Z Z λF m=>(AD (AE ?_));refine AB Z Z (AC (AD (AE (J (EG (f:=41) Z Z b Z Tr Z) (goMv Z Z (V (Vc (EJ j id) Z [41] ⟨Z,trivial⟩ Z Z Z Z Z Z Z Z Z) (goMv Z Z (CX 8 Z (λc=>?_) (λc=>?_)))))))))
 .refine AR Z Z Z (J (EG (f:=41) Z Z a Z Tr Z) (AR Z Z Z ?_));refine goMv Z Z (AR Z Z Z (V (Vc (EJ k id) Z [41] ⟨Z,trivial⟩ Z Z Z Z Z Z Z Z Z) (AR Z Z Z (J (Je Z Z) (J (BY Z Z Z Z) (AB Z Z (AC (AZ ?_))))))));exact ⟨_,[41],_,AY Z,Z,Z,by {unfold inC;simp [c]},Z⟩
 .refine AI Z Z Z Z (AI Z Z Z Z (AI Z Z Z Z (AI Z Z Z Z (J (Bf Z Z Z Z) (AB Z Z (AC (AZ ?_)))))));exact ⟨_,[41],_,AY Z,Z,Z,by {unfold inC;simp [c]},Z⟩
theorem grW_gt (h:E.length<=1000):GT (grW c E):=by
 have a:∀l∈grW c E,l.length<=1000/\∀x∈l,x<E.length:=λl a=>by
  obtain ⟨e,_,rfl⟩:=Ξ.1 a;exact ⟨ωa (XJ _ _ _ _) h,toK_lt⟩
 refine ⟨⟨by rw [Hm];omega,λl b=>by have:=(a l b).1;omega,λl b x f=>by rw [Hm];exact (a l b).2 x f⟩,?_⟩
 have d:∀i,i<=(grW c E).length ->Jm (grW c E) i<=i*1000:=λi j=>by
  induction i with
  | zero=>exact ζ _
  | succ i g=>
   grind [Fd,Jm,ωy]
 grind [Hm]
noncomputable def entC (p:Prb):List (AJ×Nat):=((BP p.it).filter λi=>inC (largeS p) (D0 p) i.id).map λi=>(i,0)
theorem eo (p:Prb):(entC p).map Prod.fst=(BP p.it).filter λi=>inC (largeS p) (D0 p) i.id:=by unfold entC;rw [ωt];exact List.map_id _
noncomputable def cirL (rs:List AW) (E:List (AJ×Nat)):List (List Int):=(cirG (grW rs E)).map (BJ E)
theorem cirG_at (h:x∈cirG g):2<=x.length/\x.length<=g.length/\∀k∈x,k<g.length:=by
 obtain ⟨b,a⟩:=Ky.1 h
 grind [clsM]
theorem fW (g:List (List Nat)):(cirG g).length<=g.length:=by grind [cirG,dc,fstM]
theorem Y1 (a:GT g) (h:x∈comC g):x.length<=g.length/\∀k∈x,k<g.length:=by grind [Uy,clsM]
theorem cntC_le (a:GT g):cntC g<=g.length:=by
 obtain ⟨b,cnt,h⟩:=cB g.length (sucs g);have:=(S2 a.gb (Wn a h)).2.1;have:=h.le;omega
theorem Uz:(comC g).length=cntC g:=by unfold comC;rw [VY]
theorem getD0 {l:List Nat} (h:0<l.length) (a:∀k∈l,k<o):l.getD 0 0<o:=by simp_all
theorem fV (a:GT g):(cirG g).length=(lgs (comC g)).length:=by
 have c:(cirG g).Nodup:=by
  grind [List.Pairwise.imp,NK]
 have b:(lgs (comC g)).Nodup:=List.Nodup.sublist ψj (P5 a);exact ((List.perm_ext_iff_of_nodup c b).2 λx=>VG a).length_eq
theorem Q6 {b:List Ae} {a:List AJ}:∀(f:Nat) (c:Nat ->Bool) (x:Int),x∈NY b a f c ->∃i,i<a.length/\c i=true/\x=(a.getD i Ag).id
 | 0,_,_,h=>nomatch h
 | f+1,c,x,h=>by
  cases hn:I9 b a c with
  | none=>rw [JN hn] at h;cases h
  | some i=>
   rw [JM hn] at h;obtain ⟨m,g,_⟩:=Oo hn;rcases Υ.1 h with e | h
   .exact ⟨i,m,g,e⟩
   .obtain ⟨j,l,d,k⟩:=Q6 f _ x h;refine ⟨j,l,?_,k⟩;unfold BM at d
    by_cases e:j=i
    .rw [e];exact g
    .simpa [e] using d
theorem O3 {b:List Ae} {a:List AJ} (d:(a.map AJ.id).Nodup):∀(f:Nat) (g:Nat ->Bool),(NY b a f g).Nodup
 | 0,_=>List.nodup_nil
 | f+1,g=>by
  cases hn:I9 b a g with
  | none=>rw [JN hn];exact List.nodup_nil
  | some i=>
   rw [JM hn];obtain ⟨o,p,_⟩:=Oo hn;refine φh.2 ⟨λh=>?_,O3 d f _⟩;obtain ⟨j,n,m,l⟩:=Q6 f _ _ h;have k:j≠i:=λe=>by subst e;unfold BM at m;simp at m
   rw [Φ,Φ,ω o,ω n] at l;have e:(a.map AJ.id)[i]'(by simpa using o)=(a.map AJ.id)[j]'(by simpa using n):=by rw [ωp,ωp];exact l
   rw [List.Nodup,ωk] at d;rcases Nat.lt_trichotomy i j with c | c | c
   .exact d i j _ _ c e
   .exact k c.symm
   .exact d j i _ _ c e.symm
theorem U7 (a:BE p=0):(D0 p).Nodup:=O3 (GX a) _ _
theorem aH (a:GH p):(D0 p).length<=30:=by
 have h:=TY (ros:=DY p) (its:=ordP p) (ordP p).length λ_=>true;have b:=Dr p;have:=a.i;unfold D0;omega
set_option maxHeartbeats 4000000 in
theorem aR (p:Prb) (z:GH p) (t:BE p=0):AM prog 30 [.d (Bg p)] (.tup [YA (cirL (rsP p) (entC p)),AF 0]):=by
 have hi30:=z.i;have hlk:=Jz p z t;have hgk:=U6 p z t;have hO:ordP p=BP p.it:=ς t;have hll:=MW t;have hgn:(D0 p).Nodup:=U7 t;have hgl:(D0 p).length<=30:=aH z;refine Ax func30 Z Z ntmps30 Z Z Z λF W=>?_;refine AD (AE (V (Bi 1 Z Z Z Z Z Z Z) (AB Z Z (AB Z Z (AC (AD (AE (J (BA Z Z Br Z Z Z) ?_))))))));refine J (Aw (hlk) Z Z) (goMv Z Z (J (Di Z Z Z) (J (Di Z Z Z) (AB Z Z (AB Z Z (AC (AD (AD ?_))))))));refine AE (goMv Z Z (J (C7 Z Z Z) (AC (Cu Z (ωh (by decide)) (AX (AD (AE (J (BA Z Z Br Z Z Z) ?_))))))));refine J (Aw (hgk) Z Z) (goMv Z Z (J (Di Z Z Z) (J (Di Z Z Z) (AB Z Z (AB Z Z (AC (AD (AD ?_))))))));refine AE (goMv Z Z (J (C7 Z Z Z) (AC (Cu Z (ωh (by decide)) (AX (AD (AE (goMv Z Z ?_))))))));refine Cd (Ve (Gp (largeS p) (Ih t) (by omega)) Z [41] ⟨Z,trivial⟩ Z Z Z Z (λr v ⟨b,N,i,h,_⟩=>by subst i h;exact ⟨Z,Z,Z⟩) Z) Z ?_;rintro _ ⟨r,v,⟨X,N1,i,h,hWl⟩,rfl⟩;subst i h;refine goMv Z Z ?_;refine Cd (Ve ((Gp (D0 p) hgn (by omega)).byX [(41,42)] Z) Z [42] ⟨Z,trivial⟩ Z Z Z Z (λr v ⟨r0,H0,⟨b,N,i,h,_⟩,e3,e4⟩=>by subst e3 e4 i h;exact ⟨Z,Z,Z⟩) Z) Z ?_;rintro _ ⟨r,v,⟨r0,H0,⟨Y,N2,i,h,hWg⟩,e3,e4⟩,rfl⟩;subst e3 e4 i h;refine V (CA 7 bC Z Z Z Z) (V (CA 8 bC Z Z Z Z) (V (B4 Z Z Z Z Z Z Z bY) (V (B4 Z Z Z Z Z Z Z bY) (AC (AD (a_merge 42 41 Z Z Z Z Z Z Z Z Z λhdj=>?_))))));have O:=hWl.l (N:=N2);have R:=HT.r hdj hWg;refine gA (ds:=[Pq X]) 7 7 41 W Z Z Z Z Z Z Z Z Z Z Z (λ_=>rfl) λb7 I=>?_;have L:=O.put (o:= .cells 124 [Pq X]) I;have Q:=R.put (o:= .cells 124 [Pq X]) I;refine gA (ds:=[Pq Y]) 8 8 41 W Z Z Z Z Z Z Z Z Z Z Z (λ_=>rfl) λb8 m=>?_;have K:=L.put (o:= .cells 124 [Pq Y]) m;have P:=Q.put (o:= .cells 124 [Pq Y]) m;have hq7:=GF (B6 (munion N1 N2) b7 (.cells 124 [Pq X])) b8 (.cells 124 [Pq Y]);refine AE (J (BA Z Z Br Z Z Z) (J (Yd (ds:=[]) (es:=[pD b7 0,pD b8 0]) Z Z Z Z Z) ?_));refine Cd (Ve (Mc p t z C1F [pD b7 0,pD b8 0] _ (inC (largeS p) (D0 p)) (circ1_c (by rw [IB (λe=>by rw [<-e,GF] at m;cases m)];exact GF _ _ _) hq7 K P)) Z [41,40] ⟨Z,Z,trivial⟩ Z Z Z Z (λr v ⟨E,M,i,h,_⟩=>by subst i h;exact ⟨Z,Z,Z⟩) Z) Z ?_;rintro _ ⟨r,v,⟨E,M,i,h,hR,s⟩,rfl⟩;subst i h;refine AB Z Z (AC (AD ?_));have S:E.map Prod.fst=(entC p).map Prod.fst:=by rw [s,hO,eo]
 have H:=aI (rs:=rsP p) (E:=E) (E':=entC p) S;have hn30:E.length<=30:=by have A:(E.map Prod.fst).length<=(BP p.it).length:=(by rw [s,hO];exact ωj _ _);rw [χ,am] at A;omega
 have haf:∀e∈E,e.1.af.length<=100000:=λe he=>by have A:e.1∈E.map Prod.fst:=ψz he;rw [s,hO] at A;have:=(z.x _ ((ah p.it).mem_iff.1 (ωc.1 A).1)).2.2;omega
 have f:GT (grW (rsP p) E):=grW_gt (by omega)
 obtain ⟨g,n⟩:∃g,grW (rsP p) E=g:=⟨_,Z⟩
 have hgl2:g.length=E.length:=by rw [<-n,Hm]
 have C:=graph_c E hR (by omega) haf;rw [n] at f C;refine AE (goMv Z Z (V (FG C Z [40] ⟨Z,trivial⟩ Z Z Z Z Z Z Z Z Z) ?_));refine Cd (Ve (S3 g f) Z [10] ⟨Z,trivial⟩ Z Z Z Z (λr v ⟨i,h⟩=>by subst i h;exact ⟨Z,Z,Z⟩) Z) Z ?_;rintro _ ⟨r,v,⟨i,h⟩,rfl⟩;subst i h;refine goMv Z Z (J (DG Z Z Z) (J (DG Z Z Z) (AB Z Z (AB Z Z (AC ?_)))));refine AD (AD (AE (goMv Z Z (J (C7 Z Z Z) (AC (Cu Z (ωh (by decide)) (AX (AD ?_))))))));have hcl:cntC g=(comC g).length:=Uz.symm;have hca:∀c∈comC g,c.length<=100000:=λc hc=>by have:=(Y1 f hc).1;omega
 have hcn30:(comC g).length<=30:=by rw [Uz];have:=cntC_le f;omega
 rw [hcl]
 obtain ⟨B,hjk⟩:∃B,(List.replicate ((comC g).length - (lgs (comC g)).length) none).map eO=B:=⟨_,Z⟩
 have D:=(delC_c (comC g) (by omega) hca).fnArgA;rw [hjk] at D;have j:∀x∈lgs (comC g),0<x.length/\x.getD 0 0<=100000:=λx w=>by have A:=Ky.1 w;have h2:=(Y1 f A.1).2;have h3:=getD0 (by omega) h2;exact ⟨by omega,by omega⟩
 refine AE (goMv Z Z (V (FG D Z [10] ⟨Z,trivial⟩ Z Z Z Z Z Z Z Z Z) (AB Z Z (AC (AD (AE ?_))))));refine goMv Z Z (V (bf laysCi func84 Z Z (λ_=>rfl) (λa b=>hdi a - hdi b) cir_swo (lgs (comC g)) (cirG g) B (by have:=dc (comC g);omega) (λx w y hy=>circ3_p x y (j x w).1 (j y hy).1 (j x w).2 (j y hy).2) (λys g1 g2=>VH f ys g1 g2) Z Z Z Ma Z Z Z Z Z) (AC (AD (AE (AB Z Z (AC (AD (AD ?_))))))));have G:(lgs (comC g)).length=(cirG g).length:=(fV f).symm;rw [G];have hc30:(cirG g).length<=30:=by have:=fW g;omega
 refine AE (goMv Z Z (J (Lc Z underlying29 Z) (goMv Z Z (AC (A2 (NR 11 11 OZ Z Z Z Z (BO (α:=Nat×List (List Int)) (λq=>⟨64,[(9,(.d (.sl none (E.map Cx)))),(11,(.own 11 0 q.2.length)),(50,(.own 10 0 (cirG g).length)),(51,(.d (AF ((cirG g).length:Int)))),(52,(.d (AF (q.1:Int))))],[(11,[.rowD 28 1 (q.2.map Gl)]),(10,[.rowD 28 1 ((cirG g).map natsD++B)])]⟩) (λq=>q.1<=(cirG g).length/\q.2=((cirG g).take q.1).map (BJ E)) (λq=>(cirG g).length - q.1) ((0,[])) (⟨ζ _,Z⟩) (AU W [11,10] Z Z ⟨Z,Z,Z,Z,Z,trivial⟩) ?_)))))));rintro ⟨k,T⟩ ⟨hk,U⟩;dsimp only at hk U⊢;refine AD (AE (J (Az Z Z Z) (AC (AD (A7 Z (λu=>?_) (λu=>?_))))))
 .refine AX (AD (A2 (AD ?_)));have l:k<(cirG g).length:=BR u;obtain ⟨hx2,hxl,hxm⟩:=cirG_at (ϑ l);have hTl:T.length<=30:=by rw [U,χ,ϱ];omega
  refine AE (J (CM (k) Z Z (Z) (l) Z underlying29 Cv Z) (J (CY Z Z ((show ((cirG g).map natsD++B)[k]? =some (natsD (cirG g)[k]) from by rw [φb (by rw [χ];exact l)];exact A3 l)) Z BF Z) ?_));refine AB Z Z (AC (AE (goMv Z Z (goMv Z Z (goMv Z Z ?_)))));refine J (Aw (ids_p E (cirG g)[k] (λx w=>by have:=hxm x w;omega) (by omega)) Z Z) (V (C1 30 OZ Z Z Z Z Z Z Z Z) (V (Eu (T) ([BJ E (cirG g)[k]]) Z Z Z Z Z Z Z Z OZ (by simp only [υ];omega) Z Z Z Z) (AB Z Z (AC (AE (J (Ah Z Z (AK (k+1) (by omega)) Z) (goMv Z Z (AC ?_))))))));exact ⟨(k+1,T++ [BJ E (cirG g)[k]]),⟨l,by show _=((cirG g).take (k+1)).map _;rw [ψ l,Ω,U];rfl⟩,by show (cirG g).length - (k+1)<(cirG g).length - k;omega,AU W [11,10] Z (Z) ⟨Z,Z,Z,Z,Z,trivial⟩⟩
 .refine Ar (AD ?_);have hke:k=(cirG g).length:=by have:=u;omega
  refine KP (emb:=Gl) 11 11 T Z Z Z Z Z Z Z ?_;rw [show T=cirL (rsP p) (entC p) by rw [U,hke,ωl,<-n];unfold cirL;rw [H.1,H.2.1]];refine AE (goMv Z Z (AB Z Z (AB Z Z (AC (AZ ?_)))));exact ⟨_,[],[],AY Z,Z,Z,Z,Z⟩
abbrev Rp (p:Prb):List D:=[.sl none (p.ro.map Bl),.sl none (p.it.map Af)]
theorem ana1_c {p:Prb} {M:MF} {m g b:Nat} {l:List D} {e x:Int} {v:D} (j:M m=some (.cells 39 (Rp p))) (i:M g=some (.cells 32 l)) (s:l.length=5) (h:M b=some (.cells 33 [AF e])) (k:b≠g) (o:v.one=true) (q:AM prog 39 [.d (Bg p)] (.tup [v,AF x])):
  AT prog 41 [.d (pD m 0),.d (pD g 0),.d (pD b 0)] [(41,[.multi M])] λr t=>r= .tup []/\t=[(41,[.multi (B6 (B6 M g (.cells 32 (l.set 0 v))) b (.cells 33 [AF x]))])]:=by
 refine Ax func41 Z Z ntmps41 Z Z Z λF u=>(AE ?_);refine J (D7 (f:=41) (n:=2) Z Z j Br Z Z (λc a=>by rcases Υ.1 a with rfl | a;rfl;rcases Υ.1 a with rfl | a;rfl;cases a) Z) (J (Aw (q) Z Z) (goMv Z Z (J (Di Z Z Z) (J (Di Z Z Z) (J (Cg Z fi32_0 Z Z Z) (V (QT (f:=41) (off:=0) Z Z o Z i (by omega) Z Cv) (V (QT (f:=41) (off:=0) Z Z Z Z (by rw [IB k];exact h) (by simp) Z bV) (AC ?_))))))));exact ⟨_,[41],_,AY Z,Z,Z,Z,Z⟩
theorem ana2_c {p:Prb} {M:MF} {m g b:Nat} {l:List D} {e x:Int} {v:D} (j:M m=some (.cells 39 (Rp p))) (i:M g=some (.cells 32 l)) (s:l.length=5) (h:M b=some (.cells 33 [AF e])) (k:b≠g) (o:v.one=true) (q:AM prog 43 [.d (Bg p)] (.tup [v,AF x])):
  AT prog 42 [.d (pD m 0),.d (pD g 0),.d (pD b 0)] [(41,[.multi M])] λr t=>r= .tup []/\t=[(41,[.multi (B6 (B6 M g (.cells 32 (l.set 1 v))) b (.cells 33 [AF x]))])]:=by
 refine Ax func42 Z Z ntmps42 Z Z Z λF u=>(AE ?_);refine J (D7 (f:=41) (n:=2) Z Z j Br Z Z (λc a=>by rcases Υ.1 a with rfl | a;rfl;rcases Υ.1 a with rfl | a;rfl;cases a) Z) (J (Aw (q) Z Z) (goMv Z Z (J (Di Z Z Z) (J (Di Z Z Z) (J (Cg Z fi32_1 Z Z Z) (V (QT (f:=41) (off:=1) Z Z o Z i (by omega) Z Cv) (V (QT (f:=41) (off:=0) Z Z Z Z (by rw [IB k];exact h) (by simp) Z bV) (AC ?_))))))));exact ⟨_,[41],_,AY Z,Z,Z,Z,Z⟩
theorem ana3_c {p:Prb} {M:MF} {q i h:Nat} {g:List D} {e x:Int} {v:D} {o:D} (l:M q=some (.cells 39 (Rp p))) (a:M i=some (.cells 32 g)) (u:g.length=5) (j:g[0]? =some o) (k:M h=some (.cells 33 [AF e])) (m:h≠i) (s:v.one=true) (t:AM prog 23 [.d (Bg p),.d o] (.tup [v,AF x])):
  AT prog 44 [.d (pD q 0),.d (pD i 0),.d (pD h 0)] [(41,[.multi M])] λr w=>r= .tup []/\w=[(41,[.multi (B6 (B6 M i (.cells 32 (g.set 2 v))) h (.cells 33 [AF x]))])]:=by
 refine Ax func44 Z Z ntmps44 Z Z Z λF y=>(AE (J (D7 (f:=41) (n:=2) Z Z l Br Z Z (λc b=>by rcases Υ.1 b with rfl | b;rfl;rcases Υ.1 b with rfl | b;rfl;cases b) Z) (J (Cg Z fi32_0 Z Z Z) ?_)));refine J (EG (f:=41) Z Z a j BF Z) (J (Aw (t) Z Z) (goMv Z Z (J (Di Z Z Z) (J (Di Z Z Z) (J (Cg Z eW Z Z Z) (V (QT (f:=41) (off:=2) Z Z s Z a (by omega) Z sz29) (V (QT (f:=41) (off:=0) Z Z Z Z (by rw [IB m];exact k) (by simp) Z bV) (AC ?_))))))));exact ⟨_,[41],_,AY Z,Z,Z,Z,Z⟩
theorem ana4_c {p:Prb} {M:MF} {m g b:Nat} {l:List D} {e x:Int} {v:D} (j:M m=some (.cells 39 (Rp p))) (i:M g=some (.cells 32 l)) (s:l.length=5) (h:M b=some (.cells 33 [AF e])) (k:b≠g) (o:v.one=true) (q:AM prog 30 [.d (Bg p)] (.tup [v,AF x])):
  AT prog 45 [.d (pD m 0),.d (pD g 0),.d (pD b 0)] [(41,[.multi M])] λr t=>r= .tup []/\t=[(41,[.multi (B6 (B6 M g (.cells 32 (l.set 3 v))) b (.cells 33 [AF x]))])]:=by
 refine Ax func45 Z Z ntmps45 Z Z Z λF u=>(AE ?_);refine J (D7 (f:=41) (n:=2) Z Z j Br Z Z (λc a=>by rcases Υ.1 a with rfl | a;rfl;rcases Υ.1 a with rfl | a;rfl;cases a) Z) (J (Aw (q) Z Z) (goMv Z Z (J (Di Z Z Z) (J (Di Z Z Z) (J (Cg Z fi32_3 Z Z Z) (V (QT (f:=41) (off:=3) Z Z o Z i (by omega) Z sz29) (V (QT (f:=41) (off:=0) Z Z Z Z (by rw [IB k];exact h) (by simp) Z bV) (AC ?_))))))));exact ⟨_,[41],_,AY Z,Z,Z,Z,Z⟩
theorem ana5_c {p:Prb} {M:MF} {m g b:Nat} {l:List D} {e x:Int} {v:D} (j:M m=some (.cells 39 (Rp p))) (i:M g=some (.cells 32 l)) (s:l.length=5) (h:M b=some (.cells 33 [AF e])) (k:b≠g) (o:v.one=true) (q:AM prog 31 [.d (Bg p)] (.tup [v,AF x])):
  AT prog 46 [.d (pD m 0),.d (pD g 0),.d (pD b 0)] [(41,[.multi M])] λr t=>r= .tup []/\t=[(41,[.multi (B6 (B6 M g (.cells 32 (l.set 4 v))) b (.cells 33 [AF x]))])]:=by
 refine Ax func46 Z Z ntmps46 Z Z Z λF u=>(AE ?_);refine J (D7 (f:=41) (n:=2) Z Z j Br Z Z (λc a=>by rcases Υ.1 a with rfl | a;rfl;rcases Υ.1 a with rfl | a;rfl;cases a) Z) (J (Aw (q) Z Z) (goMv Z Z (J (Di Z Z Z) (J (Di Z Z Z) (J (Cg Z fi32_4 Z Z Z) (V (QT (f:=41) (off:=4) Z Z o Z i (by omega) Z sz30) (V (QT (f:=41) (off:=0) Z Z Z Z (by rw [IB k];exact h) (by simp) Z bV) (AC ?_))))))));exact ⟨_,[41],_,AY Z,Z,Z,Z,Z⟩
abbrev DE:D:= .sl (some true) []
def anF:List FuncId:=[41,42,44,45,46]
def anD (b1 b4 b5:Nat) (g:FuncId):D:= .fn g [] [pD b1 0,pD b4 0,pD b5 0]
noncomputable def repV (p:Prb):List D:=[Gl (largeS p),Gl (D0 p),YA (compL (rsP p) (D2 p (largeS p))),YA (cirL (rsP p) (entC p)),.sl none ((bksL p).map bkD)]
noncomputable def repC (p:Prb) (k:Nat):List D:=(repV p).take k++List.replicate (5 - k) DE
theorem an_c (j:GH p) (i:BE p=0) (q:s<anF.length) (c:M f=some (.cells 39 (Rp p))) (b:M e=some (.cells 32 (repC p s))) (a:M h=some (.cells 33 [AF 0])) (g:h≠e):
  AT prog anF[s] [.d (pD f 0),.d (pD e 0),.d (pD h 0)] [(41,[.multi M])] λr t=>r= .tup []/\t=[(41,[.multi (B6 (B6 M e (.cells 32 (repC p (s+1)))) h (.cells 33 [AF 0]))])]:=by
 have m:∀x∈largeS p,x∈p.it.map AJ.id:=λx n=>Zq i n;have l:=Ih i;have o:=MW i;have u:=j.i
 match s,q with
 | 0,_=>exact ana1_c c b Z a g Z (Jz p j i)
 | 1,_=>exact ana2_c c b Z a g Z (U6 p j i)
 | 2,_=>exact ana3_c c b Z Z a g Z (fL p (largeS p) j (by omega) (S8 i l m) i l)
 | 3,_=>exact ana4_c c b Z a g Z (aR p j i)
 | 4,_=>exact ana5_c c b Z a g Z (aW p j i)
set_option maxHeartbeats 4000000 in
theorem Wv (p:Prb) (H:GH p) (L:BE p=0):AM prog 12 [.d (Bg p)] (.tup [.agg (repV p),AF 0]):=by
 refine Ax func12 Z Z ntmps12 Z Z Z λF x=>(AD (AE ?_));refine V (Bi 1 Z Z Z Z Z Z Z) (V (CA 2 zl32 Z Z Z Z) (AB Z Z (AC (AD (AE (V (CA 4 zl32 Z Z Z Z) (AC (AD ?_))))))));refine AE (V (CA 5 zl33 Z Z Z Z) (AC (AD (AD (IA 41 Z Z Z (gA (ds:=Rp p) 1 1 41 x Z Z Z Z Z Z Z Z Z Z Z (λ_=>rfl) λg K=>(gA (ds:=[DE,DE,DE,DE,DE]) 4 4 41 x Z Z Z Z Z Z Z Z Z Z Z (λ_=>rfl) λb v=>(gA (ds:=[AF 0]) 5 5 41 x Z Z Z Z Z Z Z Z Z Z Z (λ_=>rfl) λa h=>?_))))))));have m:b≠g:=λe=>by rw [e,GF] at v;cases v
 have l:a≠b:=λe=>by rw [e,GF] at h;cases h
 have y:a≠g:=λe=>by rw [e,IB (Ne.symm m),GF] at h;cases h
 refine AE (J (Yd (ds:=[]) (es:=[pD g 0,pD b 0,pD a 0]) Z Z Z Z Z) (J (Yd (ds:=[]) (es:=[pD g 0,pD b 0,pD a 0]) Z Z Z Z Z) ?_));refine J (Yd (ds:=[]) (es:=[pD g 0,pD b 0,pD a 0]) Z Z Z Z Z) (J (Yd (ds:=[]) (es:=[pD g 0,pD b 0,pD a 0]) Z Z Z Z Z) (J (Yd (ds:=[]) (es:=[pD g 0,pD b 0,pD a 0]) Z Z Z Z Z) (V (C1 20 sl94 Z Z Z Z Z Z Z Z) (J (Lc Z underlying94 Z) (goMv Z Z (AC (A2 (BO (α:=Nat×MF) (λq=>⟨27,[(2,(.ptr 2 0 0)),(4,(.d (pD b 0))),(5,(.d (pD a 0))),(13,(.own 20 0 5)),(14,(.d (AF 5))),(15,(.d (AF (q.1:Int))))],[(20,[.rowD 1 1 (anF.map (anD g b a))]),(2,[.blk 32 [.d DE,.d DE,.d DE,.d DE,.d DE]]),(41,[.multi q.2])]⟩) (λq=>q.1<=5/\q.2 g=some (.cells 39 (Rp p))/\q.2 b=some (.cells 32 (repC p q.1))/\q.2 a=some (.cells 33 [AF 0])) (λq=>5 - q.1) ((0,_)) (⟨ζ _,by show B6 _ _ _ _=_;rw [IB (Ne.symm y),IB (Ne.symm m)];exact GF _ _ _,by show B6 _ _ _ _=_;rw [IB (Ne.symm l)];exact GF _ _ _,GF _ _ _⟩) (AU x [20,2,41] Z Z ⟨Z,Z,Z,Z,Z,Z,trivial⟩) ?_))))))));rintro ⟨k,M⟩ ⟨G,j,i,u⟩;dsimp only at G j i u⊢;refine AD (AE (J (Az Z Z Z) (AC (AD (A7 Z (λo=>?_) (λo=>?_))))))
 .refine AX (AD (A2 (AD ?_)));have s:k<5:=BR o;have t:k<anF.length:=s;have B:B6 (B6 M b (.cells 32 (repC p (k+1)))) a (.cells 33 [AF 0]) g=some (.cells 39 (Rp p)):=by rw [IB (Ne.symm y),IB (Ne.symm m)];exact j
  have A:B6 (B6 M b (.cells 32 (repC p (k+1)))) a (.cells 33 [AF 0]) b=some (.cells 32 (repC p (k+1))):=by rw [IB (Ne.symm l)];exact GF _ _ _
  have w:B6 (B6 M b (.cells 32 (repC p (k+1)))) a (.cells 33 [AF 0]) a=some (.cells 33 [AF 0]):=GF _ _ _;refine AE (J (CM (k) Z Z (Z) (s) Z underlying94 sz1 Z) (J (CY Z Z (A3 t) Z on1 Z) (AB Z Z (AC (AD (AE (goMv Z Z ?_)))))));refine Cd (ZF (an_c H L t j i u l) Z [41] ⟨Z,trivial⟩ Z Z Z Z (λr N ⟨E,D⟩=>by subst E D;exact ⟨Z,Z,Z⟩) Z) Z ?_;rintro _ ⟨r,N,⟨E,D⟩,rfl⟩;subst E D;refine AC (AD (AE ?_));refine J (EG (f:=41) Z Z w Z on33 Z) (J (C7 Z Z Z) (AC (Cu Z (ωh (by decide)) (AX (AE (J (Ah Z Z (AK (k+1) (by omega)) Z) (goMv Z Z (AC ?_))))))));exact ⟨(k+1,_),⟨by show k+1<=5;omega,B,A,w⟩,by show 5 - (k+1)<5 - k;omega,AU x [20,2,41] Z (Z) ⟨Z,Z,Z,Z,Z,Z,trivial⟩⟩
 .refine Ar (AD ?_);have z:k=5:=by have:=o;omega
  subst z;refine AE (J (D7 (f:=41) (n:=5) Z Z i rw32 Z Z (λc I=>by have C:c∈repV p:=I;unfold repV at C;simp only [Υ,List.not_mem_nil,or_false] at C;rcases C with rfl | rfl | rfl | rfl | rfl<;>rfl) Z) (V (B4 Z Z Z Z Z Z Z sz32) (AB Z Z (AC (AZ ?_)))));exact ⟨_,[],_,AY Z,Z,Z,Z,Z⟩
theorem VA {C:Nat ->Nat ->Prop} (b:0<o) (h:∀i j,i<o ->j<o ->C i j):clsN o C=[List.range o]:=by
 unfold clsN
 have g:((List.range o).filter λk=>dec (∀j,j<k ->¬C k j))=[0]:=by
  obtain ⟨m,rfl⟩:∃m,o=m+1:=⟨o - 1,by omega⟩
  rw [List.range_succ_eq_map,χe,ς (Y0 λj a=>absurd a (Nat.not_lt_zero j)),List.filter_map]
  have f:(List.range m).filter ((λk=>dec (∀j,j<k ->¬C k j))∘Nat.succ)=[]:=List.filter_eq_nil_iff.2 λk d=>by
   have c:=Ψ.1 d;show ¬dec (∀j,j<k+1 ->¬C (k+1) j)=true;rw [FT];exact λe=>e 0 (Nat.succ_pos k) (h _ _ (by omega) (by omega))
  rw [f];rfl
 rw [g,List.map_singleton,List.filter_eq_self.2 λj a=>Y0 (h 0 j b (Ψ.1 a))]
theorem fY (g:List (List Nat)):cirG g=lgs (clsN g.length (Ku g)):=rfl
theorem grW_suc:j∈sucs (grW c E) i↔i<E.length/\j<E.length/\ai c (DO E i) (DO E j):=by grind [grW,toK,Se,sucs]
theorem T8 {e:Nat ->List Nat} {nx:Nat ->Nat} (h:∀i,i<o ->nx i∈e i) {P:Nat ->Nat} (u:∀i,i<o ->P i<o) (l:∀m,m<o ->nx (P m)=P ((m+1) % o)) (c:∀i,i<o ->∃m,m<o/\P m=i):∀i j,i<o ->j<o ->Rh e i j:=by
 have step:∀d m,m<o ->Rh e (P m) (P ((m+d) % o)):=λd m p=>by
  induction d with
  | zero=>rw [ψx,Nat.mod_eq_of_lt p];exact .refl _
  | succ d k=>
   have f:=Nat.mod_lt (m+d) (by omega:o>0);have g:=h _ (u _ f);rw [l _ f,Nat.mod_add_mod] at g;exact .step k g
 intro i j r q;obtain ⟨a,t,rfl⟩:=c i r;obtain ⟨b,s,rfl⟩:=c j q;have:=step (b+o - a) a t
 rwa [show a+(b+o - a)=b+o by omega,Nat.add_mod_right,Nat.mod_eq_of_lt s] at this
def eA:List AJ:=[QD 1 [65] [66] 5,QD 2 [66] [67] 5,QD 3 [67] [65] 5,QD 4 [65] [68] 4]
def kK:Prb:=⟨Rf,eA⟩
theorem W1:BE kK=0:=by decide
theorem kK_F:GH kK:=⟨by decide,by decide,by decide⟩
theorem kK_R:DY kK=Rf:=(cN W1 (List.Perm.refl _) (by decide)).symm
theorem dw:ordP kK=eA:=by decide
theorem kK_L:largeS kK=[1,2,3]:=by
 unfold largeS NJ;rw [kK_R,dw];exact χf (by kernel_rfl)
theorem kK_G:D0 kK=[]:=by
 unfold D0;rw [kK_R,dw];exact χf (by kernel_rfl)
def eK:List (AJ×Nat):=[(QD 1 [65] [66] 5,0),(QD 2 [66] [67] 5,0),(QD 3 [67] [65] 5,0)]
theorem kK_e1:D2 kK [1,2,3]=eK:=by
 unfold D2;rw [<-show ordP kK=BP kK.it from ς W1,dw]
 rfl
theorem kK_e2:entC kK=eK:=by
 unfold entC;rw [<-show ordP kK=BP kK.it from ς W1,dw,kK_L,kK_G]
 rfl
theorem kK_rs:∀r∈rsP kK,Al r=0:=by decide
theorem kK_w (b:i<3) (a:j<3) (h:decide (∃r∈rsP kK,CC (DO eK i) r<0/\0<CC (DO eK j) r)=true):ai (rsP kK) (DO eK i) (DO eK j):=by grind [wt_iff,kK_rs,CC]
theorem wt_int {a b:AJ} (h:ai c a b):Jf c a b:=by grind [JS,ai,Jf]
def nxK:Nat ->Nat
 | 0=>2
 | 1=>0
 | _=>1
theorem YG (i:Nat) (a:i<3):nxK i<3/\ai (rsP kK) (DO eK i) (DO eK (nxK i)):=by
 match i,a with
 | 0,_=>exact ⟨by decide,kK_w (by decide) (by decide) (by decide)⟩
 | 1,_=>exact ⟨by decide,kK_w (by decide) (by decide) (by decide)⟩
 | 2,_=>exact ⟨by decide,kK_w (by decide) (by decide) (by decide)⟩
def oK:Nat ->Nat
 | 0=>0
 | 1=>2
 | _=>1
theorem kK_cir:cirL (rsP kK) eK=[[1,2,3]]:=by
 have h:∀i j,i<3 ->j<3 ->Rh (sucs (grW (rsP kK) eK)) i j:=T8 (nx:=nxK) (P:=oK) (λi a=>grW_suc.2 ⟨a,(YG i a).1,(YG i a).2⟩) (by decide) (by decide) (by decide);unfold cirL;rw [fY,Hm,show eK.length=3 from rfl,VA (by decide) λi j a b=>⟨h i j a b,h j i b a⟩]
 decide
theorem kK_com:compL (rsP kK) eK=[[1,2,3]]:=by
 have h:∀i j,i<3 ->j<3 ->Rh (nbI (rsP kK) eK) i j:=T8 (nx:=nxK) (P:=oK) (λi a=>Eb.2 ⟨a,(YG i a).1,wt_int (YG i a).2⟩) (by decide) (by decide) (by decide);unfold compL;rw [show eK.length=3 from rfl,VA (C:=Cn (rsP kK) eK) (by decide) h]
 decide
theorem du:linL kK=Rf.map (IV kK):=(YB W1 (List.Perm.refl _) (by decide)).symm
theorem dt (i:Int) (h:(B8 kK i).af=[]):Pr kK i=(Rf.map (IV kK)).flatMap (FL i):=by grind [Pr,du,ZV,ZI]
theorem kK_clo:cloS kK [4]=[1,4]:=by
 have a:Pr kK 4=[⟨4,1,rcK 65⟩]:=by rw [dt 4 (by decide)];exact χf (by kernel_rfl)
 have e:Pr kK 1=[]:=by rw [dt 1 (by decide)];exact χf (by kernel_rfl)
 rw [<-Y3 (C:=[4,1]) W1 (by decide) (by decide) λx=>?_]
 .exact (TT (List.Perm.swap _ _ _) (by decide)).symm
 .constructor
  .intro h;rcases Υ.1 h with rfl | h
   .exact .base (by decide)
   .rw [κ.1 h];exact Yi.step (b:=⟨4,1,rcK 65⟩) (i:=4) (.base (by decide)) (by rw [a];exact κ.2 Z)
  .intro h
   induction h with
   | base h=>rw [κ.1 h];decide
   | step _ d c=>
    grind
theorem kK_v:vio1L kK 4=[⟨rcK 65,9⟩]:=by
 unfold vio1L NU;rw [kK_clo,du];exact χf (by kernel_rfl)
theorem kK_blk:bksL kK=[(4,⟨rcK 65,9⟩)]:=by
 unfold bksL;rw [<-show ordP kK=BP kK.it from ς W1,dw];have b:∀id∈([1,2,3]:List Int),bkOf kK id=none:=λid h=>VN (by rw [kK_L];exact h)
 have a:bkOf kK 4=some (4,⟨rcK 65,9⟩):=by
  unfold bkOf;rw [kK_L,kK_v,η (by decide)];rfl
 show ([1,2,3,4]:List Int).filterMap (bkOf kK)=_
 simp_all
theorem kK_rep:repV kK=[Gl [1,2,3],Gl [],YA [[1,2,3]],YA [[1,2,3]],.sl none (([(4,⟨rcK 65,9⟩)]:List (Int×Ae)).map bkD)]:=by
 unfold repV;rw [kK_L,kK_G,kK_e1,kK_e2,kK_com,kK_cir,kK_blk]
theorem U0 (l m:List Int) (q:l.length<=100000) (p:m.length<=100000):AM prog 17 [.d (.sl none (l.map AF)),.d (.sl none (m.map AF))] (Am (decide (l=m))):=by
 refine Ax func17 Z Z ntmps17 Z Z Z λF n=>(AD (AE (AB Z Z (AC (AD ?_)))));refine AD (AE (goMv Z Z (J (BU Z underlying28 Z) (goMv Z Z (J (BU Z underlying28 Z) (J (C7 Z Z Z) (AC (A7 Z (λc=>?_) (λc=>?_)))))))))
 .refine AD (AE (AB Z Z (AC (AZ ?_))));exact ⟨_,[],[],AY Z,Z,Z,DK (λh=>by have g:=ωm List.length h;have h:=c;omega),Z⟩
 .refine AX (AD (AD ?_));have i:l.length=m.length:=by have h:=c;omega
  refine AE (AB Z Z (AC (A2 (BO (α:=Nat) (λk=>⟨26,[(0,.d (.sl none (l.map AF))),(1,.d (.sl none (m.map AF))),(5,(.d (AF (k:Int))))],[]⟩) (λk=>k<=l.length/\l.take k=m.take k) (λk=>l.length - k) (0) (⟨ζ _,by simp⟩) (AU n [] Z Z ⟨Z,Z,Z,trivial⟩) ?_))));rintro k ⟨o,j⟩;refine AD (AD (AE (goMv Z Z (goMv Z Z (J (BU Z underlying28 Z) (J (Az Z Z Z) (AC (A7 Z (λa=>?_) (λa=>?_)))))))))
  .have f:k<l.length:=BR a;refine AX (AD (A2 (AD ?_)));have e:k<m.length:=by omega
   refine CD [[],[],[0,1],[0,1,2],[],[],[4,5],[4,5,6],rg 8] mixed Z (Bt (Ak 0 Z Z (Ak 5 Z Z (AP [17,18] Z (BC (k) Z Z (Z) (A3 f) underlying28 Z BD Z) ?_))));refine AP [19] Z (CF Z Z Ai Z) (Ak 1 Z Z (Ak 5 Z Z (AP [21,22] Z (BC (k) Z Z (Z) (A3 e) underlying28 Z BD Z) (AP [23] Z (CF Z Z Ai Z) (Bk 8 Z Z Z (Ab 9 Z Z (J (C7 Z Z Z) (AC ⟨Z,?_⟩))))))));refine Bx (A7 Z (λb=>?_) (λb=>?_))
   .refine AD (AE (AB Z Z (AC (AZ ?_))));exact ⟨_,[],[],AY Z,Z,Z,DK (λh=>by subst h;exact b Z),Z⟩
   .refine AX (AE (goMv Z Z (J (Ah Z Z (AK (k+1) (by omega)) Z) (AB Z Z (AC ?_)))));exact ⟨k+1,⟨by show k+1<=_;omega,by rw [ψ f,ψ e,j,χx.1 b]⟩,by show l.length - (k+1)<l.length - k;omega,AU n [] Z (Z) ⟨Z,Z,Z,trivial⟩⟩
  .refine Ar (AD (AE (AB Z Z (AC (AZ ?_)))));exact ⟨_,[],[],AY Z,Z,Z,Rg (by have g:=j;rw [θ (by have h:=a;omega),θ (by have h:=a;omega)] at g;exact g),Z⟩
theorem MU (l m:List (List Int)) (s:l.length<=100000) (r:m.length<=100000) (i:∀x∈l,x.length<=100000) (g:∀x∈m,x.length<=100000):AM prog 18 [.d (YA l),.d (YA m)] (Am (decide (l=m))):=by
 refine Ax func18 Z Z ntmps18 Z Z Z λF p=>(AD (AE (AB Z Z (AC (AD ?_)))));refine AD (AE (goMv Z Z (J (BU Z underlying29 Z) (goMv Z Z (J (BU Z underlying29 Z) (J (C7 Z Z Z) (AC (A7 Z (λf=>?_) (λf=>?_)))))))))
 .refine AD (AE (AB Z Z (AC (AZ ?_))));exact ⟨_,[],[],AY Z,Z,Z,DK (λh=>by have j:=ωm List.length h;have h:=f;omega),Z⟩
 .refine AX (AD (AD ?_));have n:l.length=m.length:=by have h:=f;omega
  refine AE (AB Z Z (AC (A2 (BO (α:=Nat) (λk=>⟨27,[(0,.d (YA l)),(1,.d (YA m)),(5,(.d (AF (k:Int))))],[]⟩) (λk=>k<=l.length/\l.take k=m.take k) (λk=>l.length - k) (0) (⟨ζ _,by simp⟩) (AU p [] Z Z ⟨Z,Z,Z,trivial⟩) ?_))));rintro k ⟨q,o⟩;refine AD (AD (AE (goMv Z Z (goMv Z Z (J (BU Z underlying29 Z) (J (Az Z Z Z) (AC (A7 Z (λa=>?_) (λa=>?_)))))))))
  .have c:k<l.length:=BR a;refine AX (AD (A2 (AD ?_)));have b:k<m.length:=by omega
   refine CD [[],[],[0,1],[0,1,2],[],[],[4,5],[4,5,6],rg 8,rg 9] mixed Z (Bt (Ak 0 Z Z (Ak 5 Z Z (AP [17,18] Z (BC (k) Z Z (Z) (A3 c) underlying29 Z Cv Z) ?_))));refine AP [19] Z (CF Z Z BF Z) (Ak 1 Z Z (Ak 5 Z Z (AP [21,22] Z (BC (k) Z Z (Z) (A3 b) underlying29 Z Cv Z) (AP [23] Z (CF Z Z BF Z) (Bk 8 Z Z Z (Ab 9 Z Z (J (Aw (U0 l[k] m[k] (i _ (ϑ c)) (g _ (ϑ b))) Z Z) (AC ⟨Z,?_⟩))))))));refine Ab 10 Z Z (J (Je Z Z) (AC ⟨Z,?_⟩));refine Bx (A7 Z (λe=>?_) (λe=>?_))
   .refine AD (AE (AB Z Z (AC (AZ ?_))));exact ⟨_,[],[],AY Z,Z,Z,DK (λh=>by subst h;exact e Z),Z⟩
   .refine AX (AE (goMv Z Z (J (Ah Z Z (AK (k+1) (by omega)) Z) (AB Z Z (AC ?_)))));exact ⟨k+1,⟨by show k+1<=_;omega,by rw [ψ c,ψ b,o,χx.1 e]⟩,by show l.length - (k+1)<l.length - k;omega,AU p [] Z (Z) ⟨Z,Z,Z,trivial⟩⟩
  .refine Ar (AD (AE (AB Z Z (AC (AZ ?_)))));exact ⟨_,[],[],AY Z,Z,Z,Rg (by have j:=o;rw [θ (by have h:=a;omega),θ (by have h:=a;omega)] at j;exact j),Z⟩
theorem co (id n:Int) (a b:List UInt8) (f:0<=n) (e:n<=1000000000000000):AM prog 40 [.d (AF id),.d (Aq a),.d (Aq b),.d (AF n)] (.agg [AF id,AF 0,AF id,.sl none ((QD id a b n).po.map BV),.sl (some true) [],.sl (some true) []]):=by
 refine Ax func40 Z Z ntmps40 Z Z Z λF c=>(AD (AE (V (CA 1 FJ Z Z Z Z) (AC (AD ?_)))));refine AE (goMv Z Z (goMv Z Z (goMv Z Z (J (EI ar ce Z Z Z) (goMv Z Z (J (bi Z (Θ _ (by omega)) Z) (J (EI QV ci Z Z Z) (goMv Z Z ?_))))))));refine J (EI ar ce Z Z Z) (goMv Z Z (J (EI QV ci Z Z Z) (V (C1 4 ZK Z Z Z Z Z Z Z Z) (Vb (emb:=BV) 20 4 (QD id a b n).po Z Z Z Z Z Z Z (J (EI FJ pl55 Z Z Z) (V (B4 Z Z Z Z Z Z Z Cm) (AC (AZ ?_))))))));exact ⟨_,[],[],AY Z,Z,Z,Z,Z⟩
theorem Nn (id n:Int) (a b:List UInt8) (k:0<=n) (j:n<=1000000000000000):AM prog 40 [.d (AF id),.d (Aq a),.d (Aq b),.d (AF n)] (Af (QD id a b n)):=
 (co id n a b k j).weak λw O v h=>h.aggMono Z (by simp [D.one]) λi c l f e v g=>by
  match i,f,e with
  | 0,f,e=>injection f with f;injection e with e;subst f e;exact g
  | 1,f,e=>injection f with f;injection e with e;subst f e;exact g
  | 2,f,e=>injection f with f;injection e with e;subst f e;exact g
  | 3,f,e=>injection f with f;injection e with e;subst f e;exact g
  | 4,f,e=>injection f with f;injection e with e;subst f e;exact g.anyNil
  | 5,f,e=>injection f with f;injection e with e;subst f e;exact g.anyNil
set_option maxHeartbeats 2000000 in
theorem Zv:AM prog 10 [] (.raw (.bool true)):=by
 have i:=Wv kK kK_F W1;rw [kK_rep] at i;refine Ax func10 Z Z ntmps10 Z Z Z λF n=>(AD ?_);refine AE (AB Z Z (AC (AD (AE (V (CA 1 Py Z Z Z Z) (AC (AD (AD ?_))))))));refine AE (V (C1 2 sl86 Z Z Z Z Z Z Z Z) (Vb (emb:=Aq) 7 2 nmK Z Z Z Z Z Z Z (J (BU Z underlying86 Z) (goMv Z Z (AC (A2 (XA 1 0 0 901 NX Z Z Z Z Z Z Z (BO (α:=Nat×List Ae) (λq=>⟨86,[(1,(.ptr 1 0 0)),(7,(.d (.sl none (nmK.map Aq)))),(8,(.d (AF 3))),(9,(.d (AF (q.1:Int))))],[(901,[.rowD 88 7 (q.2.map Bl)]),(1,[.blk 39 [.own 901 0 q.2.length,.d DE]])]⟩) (λq=>q.1<=3/\q.2=Rf.take q.1) (λq=>3 - q.1) ((0,[])) (⟨by decide,Z⟩) (AU n [901,1] Z Z ⟨Z,Z,Z,Z,trivial⟩) ?_))))))));rintro ⟨k,j⟩ ⟨m,a⟩;dsimp only at m a⊢;refine AD (AE (J (Az Z Z Z) (AC (AD (A7 Z (λc=>?_) (λc=>?_))))))
 .have g:k<nmK.length:=by have h:=BR (b:=3) c;exact h
  refine AX (AD (A2 (AD ?_)));have f:j++ [⟨⟨0,VU nmK[k],[],[]⟩,0⟩]=Rf.take (k+1):=by subst a;match k,g with | 0,_=>rfl | 1,_=>rfl | 2,_=>rfl
  have o:j.length<=3:=by rw [a];simp [Rf];omega
  refine AE (J (BC (k) Z Z (Z) (A3 g) underlying86 Z sz9 Z) (J (CF Z Z CL Z) ?_));refine AB Z Z (AC (AE (J (AL Z DF Z Z Z) (J (AQ Z Z Z ML Z) (goMv Z Z (J (EI ar ce Z Z Z) (J (EI KQ Tk Z Z Z) (J (EI R3 pl88 Z Z Z) ?_))))))));refine V (C1 50 NX Z Z Z Z Z Z Z Z) (V (Eu (j) ([⟨⟨0,VU nmK[k],[],[]⟩,0⟩]) Z Z Z Z Z Z Z Z NX (by simp only [υ];omega) Z Z Z Z) (J (AL Z DF Z Z Z) (V (B4 Z Z Z Z Z Z Z sz36) (AC (AE (J (Ah Z Z (AK (k+1) (by omega)) Z) (goMv Z Z (AC ?_))))))));exact ⟨(k+1,_),⟨by show k+1<=3;omega,f⟩,by show 3 - (k+1)<3 - k;omega,AU n [901,1] Z (Z) ⟨Z,Z,Z,Z,trivial⟩⟩
 .refine Ar (AD ?_);have l:k=3:=by have h:=c;omega
  subst l;have e:j=Rf:=a;subst e;refine Va (ys:=Rf.map Bl) 1 0 0 901 Z Z Z (by decide) Z Z Z Z Z Z Z (AE (J (Aw (Nn 1 5 [65] [66] (by decide) (by decide)) Z Z) (J (Aw (Nn 2 5 [66] [67] (by decide) (by decide)) Z Z) (J (Aw (Nn 3 5 [67] [65] (by decide) (by decide)) Z Z) (J (Aw (Nn 4 4 [65] [68] (by decide) (by decide)) Z Z) (V (C1 52 Ls Z Z Z Z Z Z Z Z) (Vb (emb:=Af) 27 52 eA Z Z Z Z Z Z Z ?_)))))));refine J (AL Z Sd Z Z Z) (V (B4 Z Z Z Z Z Z Z sz37) (AC (AD (AE (J (BA Z Z Br Z Z Z) (J (Aw (i) Z Z) (goMv Z Z (J (Di Z Z Z) ?_))))))));refine J (Di Z Z Z) (V (CA 4 zl32 Z Z Z Z) (V (B4 Z Z Z Z Z Z Z sz32) (AB Z Z (AC (AD (AE (V (C1 54 BT Z Z Z Z Z Z Z Z) (Vb (emb:=AF) 34 54 [1,2,3] Z Z Z Z Z Z Z ?_))))))));refine V (C1 55 OZ Z Z Z Z Z Z Z Z) (Vb (emb:=Gl) 35 55 [[1,2,3]] Z Z Z Z Z Z Z (AB Z Z (AC (AD (CD [[],[0],[0,1],[0,1,2],[0,1,2,3],[0,1,2],[0,1,2,5],[0,1,2,5,6],rg 8,rg 9,rg 10,rg 11,rg 12,rg 13,rg 14,rg 15,rg 16,rg 17,rg 18,rg 17,rg 20,rg 21,rg 22,rg 23,rg 24,rg 23,rg 26,rg 27,rg 28,rg 29,rg 30,rg 31,rg 32,rg 33,rg 34,rg 35,rg 36,rg 37,rg 38,rg 39,rg 40,rg 41,rg 42,rg 43,rg 44,rg 45,rg 46,rg 47,rg 48,rg 49,rg 50] mixed Z (Ab 1 Z Z (goMv Z Z (AC ⟨Z,?_⟩))))))));refine Ab 2 Z Z (J (FC Z Z Z) (AC ⟨Z,?_⟩));refine Ab 3 Z Z (goMv Z Z (EU 38 Z (Z) (AC ⟨Z,?_⟩)));refine Bt (As [4,38] [] Z Z (λ_=>Ct Z Z Z (AL Z fi32_0 Z Z Z)) ?_);refine Aj [39,38] Z Z (λ_=>Ct Z Z Z (AQ Z Z Z BF Z)) (As [6,38] [] Z Z (λ_=>Ct Z Z Z (Pv Z Z)) (As [41,38] [] Z Z (λ_=>Ct Z Z Z (BC (0) Z Z (Z) (Z) underlying29 Z Cv Z)) (As [42,38] [] Z Z (λ_=>Ct Z Z Z (CF Z Z BF Z)) (Bk 8 Z Z Z (Ab 9 Z Z (AR Z Z Z (J (Aw (U0 [1,2,3] [1,2,3] (by decide) (by decide)) Z Z) (AC ⟨Z,?_⟩))))))));refine Ab 10 Z Z (J (BY Z Z Z Z) (AC ⟨Z,?_⟩));refine Ab 11 Z Z (goMv Z Z (EU 46 Z (Z) (AC ⟨Z,?_⟩)));refine Ab 12 Z Z (AR Z Z Z (J (AL Z fi32_1 Z Z Z) (AC ⟨Z,?_⟩)));refine Ab 13 Z Z (AR Z Z Z (J (AQ Z Z Z BF Z) (AC ⟨Z,?_⟩)));refine Ab 14 Z Z (AR Z Z Z (J (BU Z underlying28 Z) (AC ⟨Z,?_⟩)));refine Ab 15 Z Z (AR Z Z Z (J (FC Z Z Z) (AC ⟨Z,?_⟩)));refine Ab 16 Z Z (J (BY Z Z Z Z) (AC ⟨Z,?_⟩));refine Ab 17 Z Z (goMv Z Z (EU 52 Z (Z) (AC ⟨Z,?_⟩)));refine Bt (As [4,52] [] Z Z (λ_=>Ct Z Z Z (AL Z eW Z Z Z)) (Aj [53,52] Z Z (λ_=>Ct Z Z Z (AQ Z Z Z on29 Z)) (As [6,52] [] Z Z (λ_=>Ct Z Z Z (Pv Z Z)) (Bk 20 Z Z Z (Ab 21 Z Z (AR Z Z Z (J (Aw (MU [[1,2,3]] [[1,2,3]] (by decide) (by decide) (by decide) (by decide)) Z Z) (AC ⟨Z,?_⟩))))))));refine Ab 22 Z Z (J (BY Z Z Z Z) (AC ⟨Z,?_⟩));refine Ab 23 Z Z (goMv Z Z (EU 58 Z (Z) (AC ⟨Z,?_⟩)));refine Bt (As [4,58] [] Z Z (λ_=>Ct Z Z Z (AL Z fi32_3 Z Z Z)) (Aj [59,58] Z Z (λ_=>Ct Z Z Z (AQ Z Z Z on29 Z)) (As [6,58] [] Z Z (λ_=>Ct Z Z Z (Pv Z Z)) (Bk 26 Z Z Z (Ab 27 Z Z (AR Z Z Z (J (Aw (MU [[1,2,3]] [[1,2,3]] (by decide) (by decide) (by decide) (by decide)) Z Z) (AC ⟨Z,?_⟩))))))));refine Ab 28 Z Z (J (BY Z Z Z Z) (AC ⟨Z,?_⟩));refine Ab 29 Z Z (goMv Z Z (EU 64 Z (Z) (AC ⟨Z,?_⟩)));refine Ab 30 Z Z (AR Z Z Z (J (AL Z fi32_4 Z Z Z) (AC ⟨Z,?_⟩)));refine Ab 31 Z Z (AR Z Z Z (J (AQ Z Z Z on30 Z) (AC ⟨Z,?_⟩)));refine Ab 32 Z Z (AR Z Z Z (J (BU Z underlying30 Z) (AC ⟨Z,?_⟩)));refine Ab 33 Z Z (AR Z Z Z (J (FC Z Z Z) (AC ⟨Z,?_⟩)));refine Ab 34 Z Z (J (BY Z Z Z Z) (AC ⟨Z,?_⟩));refine Ab 35 Z Z (goMv Z Z (EU 70 Z (Z) (AC ⟨Z,?_⟩)));refine Ab 36 Z Z (AR Z Z Z (J (AL Z fi32_4 Z Z Z) (AC ⟨Z,?_⟩)));refine Ab 37 Z Z (AR Z Z Z (J (AQ Z Z Z on30 Z) (AC ⟨Z,?_⟩)));refine Ab 38 Z Z (AR Z Z Z (J (BC (0) Z Z (Z) (Z) underlying30 Z sz66 Z) (AC ⟨Z,?_⟩)));refine Ab 39 Z Z (AR Z Z Z (J (NP Z fi66_0 Z Z Z) (AC ⟨Z,?_⟩)));refine Ab 40 Z Z (AR Z Z Z (J (CF Z Z Ai Z) (AC ⟨Z,?_⟩)));refine Ab 41 Z Z (AR Z Z Z (J (FC Z Z Z) (AC ⟨Z,?_⟩)));refine Ab 42 Z Z (J (BY Z Z Z Z) (AC ⟨Z,?_⟩));refine Ab 43 Z Z (goMv Z Z (EU 78 Z (Z) (AC ⟨Z,?_⟩)));refine Ab 44 Z Z (AR Z Z Z (J (AL Z fi32_4 Z Z Z) (AC ⟨Z,?_⟩)));refine Ab 45 Z Z (AR Z Z Z (J (AQ Z Z Z on30 Z) (AC ⟨Z,?_⟩)));refine Ab 46 Z Z (AR Z Z Z (J (BC (0) Z Z (Z) (Z) underlying30 Z sz66 Z) (AC ⟨Z,?_⟩)));refine Ab 47 Z Z (AR Z Z Z (J (NP Z fi66_2 Z Z Z) (AC ⟨Z,?_⟩)));refine Ab 48 Z Z (AR Z Z Z (J (CF Z Z Fn Z) (AC ⟨Z,?_⟩)));refine Ab 49 Z Z (AR Z Z Z (J (FC Z Z Z) (AC ⟨Z,?_⟩)));refine Ab 50 Z Z (J (BY Z Z Z Z) (AC ⟨Z,?_⟩));refine Ab 51 Z Z (AB Z Z (AC ⟨Z,?_⟩));refine Bx (AZ ?_);exact ⟨_,[],[],AY Z,Z,Z,Z,Z⟩
end Go.Proofs.YteifpcnphnhaoaaGreat
namespace Go.Proofs.YteifpcnphnhaoaaGreat
open Go.RowKit
variable {s:Sma} {R:Int ->Int ->Prop} {a:List (List Int)} {x:Nat} {c:List Int} {P:List Nat} {p:Prb} {k:Nat} {Y d:List Ae} {e f:List Int} {n:Nat} {y:Int}
theorem fc (p:Prb):blks p (LH [])=[]:=by grind [blks,List.flatMap_eq_nil_iff,KJ,LH]
theorem bE (b:BE p=0):NU p (BS [])=[]:=by
 unfold NU;rw [List.flatMap_eq_nil_iff];intro x a;have h:=da b x a;unfold Sy;rw [η (by show ¬x.n+GK p x.r []<0;have:GK p x.r []=0:=rfl;omega)]
theorem Sx {M:List (Int×Bool)}:NU p M=[]↔∀x∈linL p,0<=x.n+GK p x.r M:=by grind [NU,List.flatMap_eq_nil_iff,Sy]
theorem Yi.mono {S T:List Int} (h:∀x∈S,x∈T) {x:Int} (a:Yi p S x):Yi p T x:=by
 induction a with
 | base a=>exact .base (h _ a)
 | step _ c b=>exact .step b c
structure Chg (R:Int ->Int ->Prop) (l Y:List Ae):Prop where
 len:Y.length=l.length
 at_:∀(j:Nat) x y,l[j]? =some x ->Y[j]? =some y ->y.r=x.r/\ -4*Mx<=y.n/\y.n<=4*Mx/\R x.n y.n
theorem Chg.set (h:Chg R d Y) (c:k<Y.length) {n:Int} (f: -4*Mx<=n/\n<=4*Mx) (g:∀x,R x Y[k].n ->R x n):Chg R d (Y.set k ⟨Y[k].r,n⟩):=
 ⟨by rw [ωr];exact h.len,λj x y b a=>by
  rw [χw] at a
  split at a
  .rename_i e;subst e
   first | (rw [ς c] at a;injection a with a;subst a) | (injection a with a;subst a)
   have:=h.at_ k x _ b (ω c);exact ⟨this.1,f.1,f.2,g _ this.2.2.2⟩
  .exact h.at_ j x y b a⟩
theorem Chg.map (h:Chg R d Y):Y.map Ae.r=d.map Ae.r:=by
 refine ψk (by rw [χ,χ,h.len]) λj b a=>?_;rw [χ] at b a;rw [ωp,ωp];exact (h.at_ j _ _ (ω a) (ω b)).1
theorem Chg.mem (h:Chg R d Y):∀y∈Y,∃x∈d,y.r=x.r/\ -4*Mx<=y.n/\y.n<=4*Mx/\R x.n y.n:=λy c=>by
 obtain ⟨j,b,rfl⟩:=ψb.1 c;have a:j<d.length:=by rw [<-h.len];exact b
 exact ⟨d[j],ϑ a,h.at_ j _ _ (ω a) (ω b)⟩
def orB (x:Nat) (P:List Nat):Nat:=P.foldl (λa i=>a ||| 1<<<i) x
theorem bit_one (i j:Nat):(1<<<i).testBit j=decide (i=j):=by rw [Nat.one_shiftLeft,Nat.testBit_two_pow]
theorem Np:∀(P:List Nat) (x j:Nat),(orB x P).testBit j=true↔x.testBit j=true\/j∈P
 | [],x,j=>by simp [orB]
 | i::P,x,j=>by
  show (orB (x ||| 1<<<i) P).testBit j=true↔_;rw [Np P,Nat.testBit_or,bit_one,Bool.or_eq_true,ψv,Υ]
  constructor
  .rintro ((h | h) | h)
   .exact .inl h
   .exact .inr (.inl h.symm)
   .exact .inr (.inr h)
  .rintro (h | h | h)
   .exact .inl (.inl h)
   .exact .inl (.inr h.symm)
   .exact .inr h
theorem Zl:y∈listS s x↔∃i,i<s.ids.length/\x.testBit i=true/\s.ids.getD i 0=y:=by grind [listS]
theorem Rw (b:s.ids.Nodup) (a:y∈s.ids):y∈listS s x↔x.testBit (s.ids.idxOf y)=true:=by grind [Zl]
def Hf:List Int ->List Int ->Bool
 | a::l,b::m=>if a=b then Hf l m else decide (a<b)
 | _,_=>false
def Cq (a b:List Int):Bool:=if a.length≠b.length then decide (a.length<b.length) else Hf a b
theorem Oy:∀a b:List Int,Hf a b=true ->Hf b a=false
 | a::l,b::m,h=>by
  unfold Hf at h⊢
  split at h
  .rename_i e;subst e;rw [ς rfl];exact Oy l m h
  .rename_i e
   rw [η (λh=>e h.symm)];have:=χf h;exact ωh (by omega)
 | [],_,h=>by cases h
 | _::_,[],h=>by cases h
theorem Ow:∀a b c:List Int,Hf a b=true ->Hf b c=true ->Hf a c=true
 | a::l,b::m,c::r,f,d=>by
  unfold Hf at f d⊢
  split at f
  .rename_i e;subst e
   split at d
   .rename_i e;rw [ς e];exact Ow l m r f d
   .rename_i e;rw [η e];exact d
  .rename_i e
   have j:=χf f
   split at d
   .rename_i g;subst g
    rw [η e];exact f
   .have i:=χf d;rw [η (by omega)];exact ωf (by omega)
 | [],_,_,h,_=>by cases h
 | _::_,[],_,h,_=>by cases h
 | _::_,_::_,[],_,h=>by cases h
theorem Ox:∀a b:List Int,a.length=b.length ->a≠b ->Hf a b=false ->Hf b a=true
 | a::l,b::m,c,d,h=>by
  unfold Hf at h⊢
  split at h
  .rename_i e;subst e
   rw [ς rfl];exact Ox l m (by simpa using c) (λh=>d (by rw [h])) h
  .rename_i e
   have:=of_decide_eq_false h;rw [η (λh=>e h.symm)];exact ωf (by omega)
 | [],[],_,d,_=>absurd Z d
 | [],_::_,c,_,_=>by simp at c
 | _::_,[],c,_,_=>by simp at c
theorem UP (h:Cq e f=true):¬Cq f e=true:=by grind [Cq,Oy]
theorem UN {c:List Int} (g:Cq e f=true) (d:Cq f c=true):Cq e c=true:=by grind [Cq,Ow]
theorem UO (c:e≠f) (h:¬Cq e f=true):Cq f e=true:=by grind [Cq,Ox]
theorem WL {c:Type} {R:c ->c ->Prop} (f:∀a b,R a b ->¬R b a) {l m:List c} (j:l.Pairwise R) (i:m.Pairwise R) (h:∀x,x∈l↔x∈m):l=m:=by
 have g:∀{l:List c},l.Pairwise R ->l.Nodup:=λh=>h.imp λ{a b} d e=>by subst e;exact f _ _ d d
 grind [List.Perm.eq_of_pairwise,List.perm_ext_iff_of_nodup]
def IM (n:Nat):Nat ->Nat ->List (List Nat)
 | 0,_=> [[]]
 | l+1,frm=>((List.range (n+1 - (l+1) - frm)).map (frm+ ·)).flatMap λi=>(IM n l (i+1)).map (i:: ·)
theorem HP (n:Nat):∀(l a x:Nat),enumX n l a x=(IM n l a).map (orB x)
 | 0,_,_=>rfl
 | l+1,a,x=>by
  unfold enumX IM;rw [List.map_flatMap]
  congr 1
  funext i
  rw [HP n l (i+1),ωt]
  rfl
theorem Ti {n:Nat}:∀{l a:Nat} {P:List Nat},P∈IM n l a ->P.length=l
 | 0,_,P,h=>by simp [IM] at h;subst h;rfl
 | l+1,a,P,h=>by
  unfold IM at h;obtain ⟨i,_,h⟩:=χl.1 h;obtain ⟨Q,b,rfl⟩:=Ξ.1 h;rw [χq,Ti b]
theorem Ni {n:Nat}:∀{l a:Nat} {P:List Nat},P∈IM n l a ->P.Pairwise (· < ·)/\∀j∈P,a<=j/\j<n
 | 0,_,P,h=>by simp [IM] at h;subst h;simp
 | l+1,a,P,h=>by
  unfold IM at h;obtain ⟨i,f,h⟩:=χl.1 h;obtain ⟨k,e,rfl⟩:=Ξ.1 f;have d:=Ψ.1 e;obtain ⟨Q,g,rfl⟩:=Ξ.1 h;obtain ⟨m,c⟩:=Ni g;refine ⟨ψr.2 ⟨λj b=>by have:=(c j b).1;omega,m⟩,λj b=>?_⟩;rcases Υ.1 b with rfl | b
  .exact ⟨by omega,by omega⟩
  .have:=c j b;omega
theorem SD {n:Nat}:∀{P:List Nat} {frm:Nat},frm<=n ->P.Pairwise (· < ·) ->(∀j∈P,frm<=j/\j<n) ->P.length<=n - frm
 | [],_,_,_,_=>ζ _
 | i::P,frm,e,b,h=>by
  have f:=h i ωu;obtain ⟨d,c⟩:=ψr.1 b
  have:=SD (P:=P) (frm:=i+1) (by omega) c λj a=>⟨d j a,(h j (ωw _ a)).2⟩
  rw [χq];omega
theorem Tj {n:Nat}:∀{P:List Nat} {frm:Nat},P.Pairwise (· < ·) ->(∀j∈P,frm<=j/\j<n) ->P∈IM n P.length frm
 | [],_,_,_=>by simp [IM]
 | i::P,frm,d,h=>by
  have g:=h i ωu;obtain ⟨e,c⟩:=ψr.1 d
  have b:∀j∈P,i+1<=j/\j<n:=λj a=>⟨e j a,(h j (ωw _ a)).2⟩
  have f:=SD (P:=P) (frm:=i+1) (by omega) c b;show i::P∈IM n (P.length+1) frm;unfold IM;refine χl.2 ⟨i,Ξ.2 ⟨i - frm,Ψ.2 (by omega),by omega⟩,Ξ.2 ⟨P,Tj c b,Z⟩⟩
theorem Zo (a:Int) (l m:List Int):Hf (a::l) (a::m)=Hf l m:=by grind [Hf]
theorem Th {n:Nat} {g:Nat ->Int} (e:∀i j,i<j ->j<n ->g i<g j):∀l c,((IM n l c).map λP=>P.map g).Pairwise λa b=>Hf a b=true
 | 0,_=>by simp [IM]
 | l+1,c=>by
  unfold IM;rw [List.map_flatMap,List.pairwise_flatMap]
  constructor
  .intro i _;rw [ωt];have d:=Th e l (i+1);rw [ψc] at d⊢;refine d.imp λ{P Q} h=>?_;show Hf (g i::P.map g) (g i::Q.map g)=true;rw [Zo];exact h
  .rw [ψc];refine χz (λ{a b} s o p x k y f=>?_) (List.pairwise_lt_range);obtain ⟨_,r,rfl⟩:=Ξ.1 k;obtain ⟨_,q,rfl⟩:=Ξ.1 f;obtain ⟨P,_,rfl⟩:=Ξ.1 r;obtain ⟨Q,_,rfl⟩:=Ξ.1 q;have m:=Ψ.1 o;have:=e (c+a) (c+b) (by omega) (by omega);show (if g (c+a)=g (c+b) then _ else decide (g (c+a)<g (c+b)))=true;rw [η (by omega)];exact ωf this
theorem Qu (b:P.Pairwise (· < ·)) (a:∀j∈P,j<s.ids.length):listS s (orB 0 P)=P.map λi=>s.ids.getD i 0:=by
 unfold listS
 congr 1
 grind [WL,ψj,List.pairwise_lt_range,Np]
def fq (s:Sma):List (List Int):=(fp s).map (listS s)
theorem a9 (p:s.ids.Pairwise (· < ·)):(fq s).Pairwise λa b=>Cq a b=true:=by
 unfold fq fp;rw [List.map_flatMap,List.pairwise_flatMap]
 have l:∀k,∀L∈((enumX s.ids.length k 0 0).filter (admS s)).map (listS s),L.length=k:=λk L z=>by
  grind [HP,Ni,Qu,Ti]
 constructor
 .intro k _
  have w:=Th (n:=s.ids.length) (g:=λi=>s.ids.getD i 0) (λi j d c=>by
   show s.ids.getD i 0<s.ids.getD j 0;rw [FF 0 c,FF 0 (Nat.lt_trans d c)]
   exact ωk.1 p i j _ c d) k 0
  have v:((enumX s.ids.length k 0 0).map (listS s)).Pairwise λa b=>Hf a b=true:=by
   rw [HP,ωt]
   have e:(IM s.ids.length k 0).map (listS s∘orB 0)=(IM s.ids.length k 0).map λP=>P.map λi=>s.ids.getD i 0:=ωe λP t=>by
    have h:=Ni t;exact Qu h.1 λj c=>(h.2 j c).2
   rw [e];exact w
  have u:(((enumX s.ids.length k 0 0).filter (admS s)).map (listS s)).Pairwise λa b=>Hf a b=true:=List.Pairwise.sublist (List.filter_sublist.map _) v;refine χz (λ{a b} r q f=>?_) u;unfold Cq;rw [η (by rw [l k a r,l k b q];exact λh=>h Z)];exact f
 .refine χz (λ{a b} _ _ f x o y m=>?_) (List.pairwise_lt_range);have B:=l a x o;have A:=l b y m;unfold Cq;rw [ς (by omega)];exact ωf (by omega)
theorem d6 (y:Nat):y∈fp s↔(∃P:List Nat,P.Pairwise (· < ·)/\(∀j∈P,j<s.ids.length)/\orB 0 P=y)/\admS s y=true:=by
 unfold fp;rw [χl]
 constructor
 .grind [HP,Ni]
 .rintro ⟨⟨P,c,b,e⟩,d⟩
  have g:=Tj (n:=s.ids.length) (frm:=0) c λj a=>⟨ζ _,b j a⟩
  have f:=SD (n:=s.ids.length) (P:=P) (frm:=0) (ζ _) c λj a=>⟨ζ _,b j a⟩
  refine ⟨P.length,Ψ.2 (by omega),ωc.2 ⟨?_,d⟩⟩;rw [HP]
  grind
def Oe (n x:Nat):List Nat:=(List.range n).filter λi=>x.testBit i
theorem Od (n x:Nat):(Oe n x).Pairwise (· < ·):=List.Pairwise.sublist ψj List.pairwise_lt_range
theorem c8 {j:Nat} (h:j∈Oe n x):j<n:=Ψ.1 (ωc.1 h).1
theorem MJ (a:x<2^n):orB 0 (Oe n x)=x:=by
 refine Nat.eq_of_testBit_eq λj=>?_
 grind [Oe,Np,Nat.testBit_lt_two_pow,ψf,Nat.pow_le_pow_right]
theorem orB_lt (h:∀j∈P,j<n):orB 0 P<2^n:=by
 refine Nat.lt_pow_two_of_testBit _ λj a=>?_
 grind [Np]
theorem Zm (y:Nat):y∈fp s↔y<2^s.ids.length/\admS s y=true:=by
 rw [d6]
 constructor
 .rintro ⟨⟨P,_,a,rfl⟩,c⟩;exact ⟨orB_lt a,c⟩
 .rintro ⟨d,a⟩;exact ⟨⟨Oe s.ids.length y,Od _ _,λj b=>c8 b,MJ d⟩,a⟩
theorem d7 (L:List Int):L∈fq s↔∃y,y<2^s.ids.length/\admS s y=true/\L=listS s y:=by grind [fq,Zm]
theorem eB (n:k<=a.length) (h:a.Pairwise λd b=>Cq d b=true) (r:∀y∈a.drop k,Cq c y=true) (g:k=0\/∃n:k - 1<a.length,¬Cq c a[k - 1]=true) (m:c∉a):(a.take k++ [c]++a.drop k).Pairwise λd b=>Cq d b=true:=by
 have q:∀y∈a.take k,Cq y c=true:=λy l=>by
  rcases g with g | ⟨f,g⟩
  .grind
  .obtain ⟨j,p,rfl⟩:=ψg.1 l;have o:Cq a[k - 1] c=true:=UO (λe=>m (e▸ϑ f)) g;rcases Nat.lt_or_ge j (k - 1) with i | i
   .exact UN (ωk.1 h j (k - 1) (by omega) f i) o
   grind
 grind [χy,ψi]
theorem ins_mem (L:List Int):L∈a.take k++ [c]++a.drop k↔L∈a\/L=c:=by grind [χy]
theorem Zn (f:s.ids.Nodup) {y:Nat} (e:x<2^s.ids.length) (d:y<2^s.ids.length) (h:listS s x=listS s y):x=y:=by
 rw [<-MJ e,<-MJ d]
 congr 1
 refine WL (R:=λa b:Nat=>a<b) (λa b h=>by omega) (Od _ _) (Od _ _) λj=>?_
 have c:∀z j,j∈Oe s.ids.length z↔∃g:j<s.ids.length,s.ids[j]∈listS s z:=λz j=>by
  grind [Oe,Rw]
 grind
section
variable {β:Type} (step:β ->List Int ->β×Bool)
end
section
variable {β:Type}
end
variable {a:List (List Int)} {s:Sma} {m:Nat}
abbrev hUn (s:Sma) (u:Nat):Hp:=[(2,[.blk 390 [.d (.ptr (smaD s))]]),(3,[.blk 292 [.d (u32D u)]])]
structure V6 (s:Sma) (m:Nat) (out:List (List Int)):Prop where
 o:out.Pairwise λa b=>Cq a b=true
 m_:∀L,L∈out↔∃y,y<m/\admS s y=true/\L=listS s y
 l:out.length<=m
theorem V6.skip (h:V6 s m a) (b:admS s m=false):V6 s (m+1) a:=by
 refine ⟨h.o,λL=>?_,Nat.le_succ_of_le h.l⟩;rw [h.m_]
 grind
theorem V6.add {k:Nat} (h:V6 s m a) (e:s.ids.Nodup) (b:m<2^s.ids.length) (l:admS s m=true) (c:k<=a.length) (g:∀y∈a.drop k,Cq (listS s m) y=true) (f:k=0\/∃c:k - 1<a.length,¬Cq (listS s m) a[k - 1]=true):V6 s (m+1) (a.take k++ [listS s m]++a.drop k):=by
 refine ⟨eB c h.o g f λd=>?_,λL=>?_,?_⟩
 .obtain ⟨y,j,n,i⟩:=(h.m_ _).1 d;have:=Zn e b (Nat.lt_trans j b) i;omega
 .rw [ins_mem,h.m_]
  grind
 .have:=h.l
  grind
theorem V6.done (d:s.ids.Pairwise (· < ·)) (h:V6 s (2^s.ids.length) a):a=fq s:=
 WL (R:=λc b=>Cq c b=true) (λc b h=>UP h) h.o (a9 d) λL=>by rw [h.m_,d7]
section
variable {P:Program} {F:Fr} {s:AS} {d:Nat} {x y:Operand} {T T':TypeId} {ty:TypeId} {pos:String} {aft:Array Edge} {g:Option (Nat×Bool)} {k:IntKind} {a b:Int}
end
variable {a:List Int} {p:Prb}
theorem WT (b:a.Nodup) {j:Nat} (c:j<a.length):a[j]∉a.take j:=λh=>by
 obtain ⟨i,d,e⟩:=ψg.1 h;rw [List.Nodup,ωk] at b;exact b i j (by omega) c (by omega) e
theorem Y6 {i:AJ}:N9 i=0↔(∀x∈i.af,(0<=x/\x<=1000000000)/\x≠i.id)/\i.af.Nodup:=by
 unfold N9;rw [V1]
 constructor
 .intro h
  have c:∀k (d:k<i.af.length),(0<=i.af[k]/\i.af[k]<=1000000000)/\i.af[k]≠i.id/\i.af[k]∉i.af.take k:=λk d=>by
   have:=h k (Ψ.2 d)
   grind [Mo]
  refine ⟨λx f=>?_,?_⟩
  .obtain ⟨k,d,rfl⟩:=ψb.1 f
   grind
  .rw [List.Nodup,ωk];intro a b l g j e;exact (c b g).2.2 (ψg.2 ⟨a,by omega,e⟩)
 grind [ϑ,Mo,WT]
theorem inL_eq {m:List Int} (h:∀x,x∈a↔x∈m):LH a=LH m:=by grind [LH]
theorem Ym {m:List Int} (h:a.Perm m) (c:NU p (BS a)=[]):NU p (BS m)=[]:=
 Sx.2 λx b=>by
  have:=Sx.1 c x b;have d:(BS a).Perm (BS m):=h.map _;rw [Lk d] at this;exact this
structure Fea (p:Prb) (C:List Int):Prop where
 n:C.Nodup
 i:∀x∈C,x∈p.it.map AJ.id
 a:blks p (LH C)=[]
 v:NU p (BS C)=[]
theorem Fea.perm {C D:List Int} (h:Fea p C) (a:C.Perm D):Fea p D:=
 ⟨a.nodup_iff.1 h.n,λx b=>h.i x (a.mem_iff.2 b),by rw [<-inL_eq λx=>a.mem_iff];exact h.a,Ym a h.v⟩
theorem Fea.nil (b:BE p=0):Fea p []:=⟨List.nodup_nil,λx a=>(by cases a),fc p,bE b⟩
end Go.Proofs.YteifpcnphnhaoaaGreat
namespace Go.Proofs.YteifpcnphnhaoaaGreat
open Go.RowKit Go.Shelf
variable {S a:List Int} {N:MF} {o:List Int} {c k d:Nat} {e:Int}
set_option maxRecDepth 100000
theorem few_sml {p:Prb} (h:Sml p):GH p:=⟨by have:=h.1;omega,by have:=h.2.1;omega,λi a=>by have:=h.2.2 i a;omega⟩
def Wr (W:Int ->Int ->Bool) (c:Int) (l o:List Int):List Int:=l.foldl (λo x=>if (!decide (x∈o) && W c x)=true then o++ [x] else o) o
theorem Mm {W:Int ->Int ->Bool} {c:Int}:Wr W c (e::a) o=Wr W c a (if (!decide (e∈o) && W c e)=true then o++ [e] else o):=rfl
theorem bfs1_mem {W:Int ->Int ->Bool} {c:Int}:∀(l o:List Int) (x:Int),x∈Wr W c l o↔x∈o\/(x∈l/\W c x=true)
 | [],o,x=>by unfold Wr;simp
 | a::l,o,x=>by
  have e:=bfs1_mem (W:=W) (c:=c) l (if (!decide (a∈o) && W c a)=true then o++ [a] else o) x;rw [Mm,e,Υ]
  by_cases h:(!decide (a∈o) && W c a)=true
  .rw [ς h,ϖ,κ];simp only [ωd] at h
   constructor
   .rintro ((b | rfl) | b)
    .exact .inl b
    .exact .inr ⟨.inl Z,h.2⟩
    .exact .inr ⟨.inr b.1,b.2⟩
   .rintro (b | ⟨rfl | b,d⟩)
    .exact .inl (.inl b)
    .exact .inl (.inr Z)
    .exact .inr ⟨b,d⟩
  .rw [η h]
   constructor
   .rintro (b | b)
    .exact .inl b
    .exact .inr ⟨.inr b.1,b.2⟩
   .rintro (b | ⟨rfl | b,d⟩)
    .exact .inl b
    .refine .inl (Classical.byContradiction λf=>h ?_);rw [d,ωh f];rfl
    .exact .inr ⟨b,d⟩
theorem VO {W:Int ->Int ->Bool} {c:Int}:∀(l o:List Int),o<+:Wr W c l o
 | [],o=>List.prefix_refl o
 | a::l,o=>by
  rw [Mm];refine List.IsPrefix.trans ?_ (VO l _)
  split
  .exact List.prefix_append _ _
  .exact List.prefix_refl o
theorem Pa {W:Int ->Int ->Bool} {c:Int}:∀(l o:List Int),o.Nodup ->(Wr W c l o).Nodup
 | [],o,h=>h
 | a::l,o,h=>by
  rw [Mm];refine Pa l _ ?_
  split
  .rename_i b
   rw [ωd] at b;have g:a∉o:=by simpa using b.1
   rw [χv];exact ⟨h,by simp,λx f y d e=>g (by rw [κ.1 d] at e;exact e▸f)⟩
  .exact h
structure BI (l:List Int) (a:Int) (i:Nat) (o:List Int):Prop where
 le:i<=o.length
 nd:o.Nodup
 sb:∀x∈o,x∈a::l
theorem BI.len {i:Nat} (h:BI a e i o):o.length<=a.length+1:=by
 have:=DN h.nd h.sb;omega
theorem BI.step {W:Int ->Int ->Bool} {l:List Int} {a:Int} {i:Nat} {o:List Int} (h:BI l a i o) (e:i<o.length) (c:Int):BI l a (i+1) (Wr W c l o):=
 ⟨ωa e (VO l o).length_le,Pa l o h.nd,λx d=>by
  rcases (bfs1_mem l o x).1 d with b | b
  .exact h.sb x b
  .exact ωw _ b.1⟩
inductive RcI (W:Int ->Int ->Bool) (l:List Int) (a:Int):Int ->Prop
 | refl:RcI W l a a
 | step {y x:Int} (h:RcI W l a y) (hx:x∈l) (hw:W y x=true):RcI W l a x
theorem fN (a:List AW) (E:List (AJ×Nat)):(compL a E).length<=E.length/\∀x∈compL a E,x.length<=E.length:=by grind [compL,clsN,ab]
theorem en (p:Prb) (l:List Int):(D2 p l).length<=p.it.length:=by grind [D2,am]
theorem sz_ok {l:List (List Int)} {n:Nat} (h:l.length<=n/\∀x∈l,x.length<=n) (a:n<=100000):l.length<=100000/\∀x∈l,x.length<=100000:=by grind
theorem listsT (l:List (List Int)) (h:l.length<=100000/\∀x∈l,x.length<=100000):AM prog 18 [.d (YA l),.d (YA l)] (Am true):=by grind [MU]
theorem itn_in {E:List (AJ×Nat)} {i:Nat} (a:i<E.length):DO E i∈E.map Prod.fst:=by rw [Se a];exact ψz (ϑ _)
structure CirOk (p:Prb) (L:List Int) (W:List (List Int)) (c:List Int):Prop where
 two:2<=c.length
 len:c.length<=p.it.length
 nd:c.Nodup
 lg:∀x∈c,x∈largeS p/\x∉D0 p
 wt:∀x∈c,∃(m:Nat) (h:m<L.length) (h2:m<W.length),L[m]=x/\∃y,y∈W[m]/\y∈c
structure PartOk (p:Prb) (S:List Int) (T:List (List Int)):Prop where
 sum:(T.map List.length).sum=S.length
 el:∀c∈T,c.Nodup/\c.length<=p.it.length/\∀x∈c,x∈S/\∃a,a∈p.it/\a.id=x
 ap:T.Pairwise λc d=>∀x∈c,∀y∈d,∀a b,a∈p.it ->b∈p.it ->a.id=x ->b.id=y ->¬Jf (rsP p) a b
abbrev R1F:FuncId:=90
def UA (S:List Int) (x:Int):Bool:=!decide (x∈S)
theorem T9 (a:N c=some (.cells 124 [Pq d])) (e:HT N d S) (id:Int):
  AT prog R1F [.d (AF id),.d (pD c 0)] [(41,[.multi N])] λr g=>r= .d (Am (UA S id))/\g=[(41,[.multi N])]:=by
 refine Ax func90 Z Z ntmps90 Z Z Z λF h=>(AD (AE (AB Z Z (AC ?_))));refine AD (AE (J (EG (f:=41) Z Z a Z Tr Z) (goMv Z Z (V (Vc (EJ e id) Z [41] ⟨Z,trivial⟩ Z Z Z Z Z Z Z Z Z) (J (Je Z Z) (AB Z Z (AC (AZ ?_))))))));exact ⟨_,[41],_,AY Z,Z,Z,by unfold UA;simp,Z⟩
abbrev fnR1 (b7:Nat):D:= .fn R1F [] [pD b7 0]
theorem idxR_c (i:N c=some (.cells 124 [Pq d])) (o:HT N d S) (l:List Int) (q:l.length<=100000):
  AT prog 138 [.d (Gl l),.d (fnR1 c)] [(41,[.multi N])] λr p=>r= .d (AF (LE (UA S) l))/\p=[(41,[.multi N])]:=by
 refine Ax func138 Z Z ntmps138 Z Z Z λF m=>(AD (AE (AB Z Z (AC ?_))));refine AD (AD (AE (goMv Z Z (J (BU Z underlying28 Z) (goMv Z Z (AC (A2 (BO (α:=Nat) (λk=>⟨19,[(0,.d (Gl l)),(1,.d (fnR1 c)),(7,(.d (AF (l.length:Int)))),(8,(.d (AF (k:Int))))],[(41,[.multi N])]⟩) (λk=>k<=l.length/\∀x∈l.take k,UA S x=false) (λk=>l.length - k) (0) (⟨ζ _,by simp⟩) (AU m [41] Z Z ⟨Z,Z,Z,Z,trivial⟩) ?_))))))));rintro k ⟨n,g⟩;refine AD (AE (J (Az Z Z Z) (AC (AD (A7 Z (λj=>?_) (λj=>?_))))))
 .have e:k<l.length:=BR j;refine AX (AD (A2 (AD (AE (goMv Z Z (AB Z Z (AC (AD ?_))))))));refine AE (goMv Z Z (goMv Z Z (goMv Z Z (J (BC (k) Z Z (Z) (A3 e) underlying28 Z BD Z) (J (CF Z Z Ai Z) (V (Vc (T9 i o l[k]) Z [41] ⟨Z,trivial⟩ Z Z Z Z Z Z Z Z Z) (AC (JC Z (λf=>?_) (λf=>?_)))))))))
  .refine AD (AE (goMv Z Z (AB Z Z (AC (AZ ?_)))));exact ⟨_,[41],_,AY Z,Z,Z,A0 (by unfold LE;rw [G0 e g (by simpa using f)]),Z⟩
  .refine AX (AE (J (Ah Z Z (AK (k+1) (by omega)) Z) (goMv Z Z (AC ?_))));exact ⟨k+1,⟨by show k+1<=_;omega,by rw [ψ e];intro x a;rcases ϖ.1 a with a | a;exact g x a;rw [κ.1 a];simpa using f⟩,by show l.length - (k+1)<l.length - k;omega,AU m [41] Z (Z) ⟨Z,Z,Z,Z,trivial⟩⟩
 .refine Ar (AD (AE (AB Z Z (AC (AZ ?_)))));exact ⟨_,[41],_,AY Z,Z,Z,A0 (by unfold LE;rw [Hr (λx a=>g x (by rw [θ (by have h:=j;omega)];exact a))]),Z⟩
def ND (S l:List Int):List Int:=l.filter λx=>!UA S x
theorem YF (h:∀x∈a,UA S x=false):ND S a=a:=List.filter_eq_self.2 λx b=>by rw [h x b];rfl
theorem dp (b:k<a.length) (h:UA S a[k]=false):ND S (a.take (k+1))=ND S (a.take k)++ [a[k]]:=by
 unfold ND;rw [Er b,ς (by rw [h];rfl)]
theorem Ry (b:k<a.length) (h:UA S a[k]=true):ND S (a.take (k+1))=ND S (a.take k):=by grind [ND,Er]
theorem WZ (S l:List Int):(ND S l).length<=l.length:=ωj _ _
theorem delR_c (R:∀d m,N d=some m ->m.FlatM) (E:N c=some (.cells 124 [Pq d])) (Q:HT N d S) (l:List Int) (U:l.length<=100000):AT prog 88 [.own 930 0 l.length,.d (fnR1 c)] [(930,[.rowD 3 1 (l.map AF)]),(41,[.multi N])] λr W=>r= .own 930 0 (ND S l).length/\W=[(930,[.rowD 3 1 ((ND S l++List.replicate (l.length - (ND S l).length) 0).map AF)]),(41,[.multi N])]:=by
 have k:=idxR_c E Q l U
 cases hfi:l.findIdx? (UA S) with
 | none=>
  have G:∀x∈l,UA S x=false:=λx I=>by have:=List.findIdx?_eq_none_iff.1 hfi x I;simpa using this
  have e:LE (UA S) l= -1:=by unfold LE;rw [hfi]
  rw [e] at k;have z:=YF G;refine Ax func88 Z Z ntmps88 Z Z Z λF H=>(AD (AE (AB Z Z (AC (AD (AE ?_))))));refine goMv Z Z (goMv Z Z (V (Q3 [930] k (by exact ⟨.inr ⟨_,_,Z,.own Z Z (by simp) (θ (by simp)),Z⟩,.inl Z,trivial⟩) Z R ⟨Z,trivial⟩ Z Z Z Z Z Z Z) (AB Z Z (AC (AD (AD (AE (goMv Z Z ?_))))))));refine J (FC Z Z Z) (AC (Bz Z (Z) (AD (AE (goMv Z Z (AB Z Z (AC (AZ ?_))))))));exact ⟨_,[930,41],_,AY Z,Z,Z,by rw [z],by rw [z];simp⟩
 | some p=>
  obtain ⟨L,A,B⟩:=List.findIdx?_eq_some_iff_getElem.1 hfi;have e:LE (UA S) l=(p:Int):=by unfold LE;rw [hfi]
  rw [e] at k
  have y:∀x∈l.take p,UA S x=false:=λx I=>by
   obtain ⟨j,X,rfl⟩:=ψg.1 I;have:=B j (by omega)
   simpa using this
  have K:ND S (l.take (p+1))=l.take p:=by rw [Ry L A,YF y]
  refine Ax func88 Z Z ntmps88 Z Z Z λF H=>(AD ?_);refine AE (AB Z Z (AC (AD (AE (goMv Z Z (goMv Z Z (V (Q3 [930] k (by exact ⟨.inr ⟨_,_,Z,.own Z Z (by simp) (θ (by simp)),Z⟩,.inl Z,trivial⟩) Z R ⟨Z,trivial⟩ Z Z Z Z Z Z Z) (AB Z Z ?_))))))));refine AC (AD (AD (AE (goMv Z Z (J (FC Z Z Z) (AC (Cu Z ((ωh (by omega))) (AX ?_))))))));refine AD (AD (AE (goMv Z Z (J (Ah Z Z (AK (p+1) (by omega)) Z) (AB Z Z (AC (A2 (BO (α:=Nat×Nat×List Int) (λq=>⟨42,[(0,(.own 930 0 l.length)),(1,(.d (fnR1 c))),(5,(.d (AF (q.1:Int)))),(6,(.d (AF (q.2.1:Int))))],[(930,[.rowD 3 1 (q.2.2.map AF)]),(41,[.multi N])]⟩) (λq=>q.2.1<=l.length/\q.1<q.2.1/\q.2.2.length=l.length/\q.2.2.take q.1=ND S (l.take q.2.1)/\q.2.2.drop q.2.1=l.drop q.2.1) (λq=>l.length - q.2.1) ((p,p+1,l)) (⟨by show p+1<=_;omega,ψp _,Z,K.symm,Z⟩) (AU H [930,41] Z Z ⟨Z,Z,Z,Z,trivial⟩) ?_))))))));rintro ⟨i,j,a⟩ ⟨O,P,f,n,o⟩;dsimp only at O P f n o⊢;refine AD (AD (AE (goMv Z Z (goMv Z Z (J (Lc Z underlying28 Z) (J (Az Z Z Z) (AC (A7 Z (λw=>?_) (λw=>?_)))))))))
  .have g:j<l.length:=BR w;refine AX (AD (A2 (AD (AE ?_))));have C:j<a.length:=by omega
   have u:a[j]=l[j]:=by have T:(a.drop j)[0]? =(l.drop j)[0]?:=by {rw [o]};rw [χh,χh,ψx,ω C,ω g] at T;injection T
   refine goMv Z Z (goMv Z Z (J (CM (j) Z Z (Z) (g) Z underlying28 BD Z) (J (CY Z Z (A3 C) Z Ai Z) (AB Z Z ?_))));refine AC (AD (AE (goMv Z Z (goMv Z Z (V (Vc (T9 E Q a[j]) Z [41] ⟨Z,trivial⟩ Z Z Z Z Z Z Z Z Z) (J (NQ Z Z) (AC (JC Z (λv=>?_) (λv=>?_)))))))))
   .have t:UA S l[j]=false:=by rw [<-u];simpa using v
    refine AD (AE (goMv Z Z (goMv Z Z (goMv Z Z (J (CM (i) Z Z (Z) ((by omega)) Z underlying28 BD Z) (V (FW (a) (a[j]) Z Z Z Z Z Z (by omega) Z BD) (AC (AE ?_))))))));refine goMv Z Z (J (Ah Z Z (AK (i+1) (by omega)) Z) (AB Z Z (AC (AE (goMv Z Z (J (Ah Z Z (AK (j+1) (by omega)) Z) (AB Z Z (AC ?_))))))));exact ⟨(i+1,j+1,_),⟨by show j+1<=_;omega,by show i+1<j+1;omega,by show (a.set i a[j]).length=_;rw [ωr];exact f,by show (a.set i a[j]).take (i+1)=ND S (l.take (j+1));rw [dp g t,<-n,ψ (by rw [ωr];omega),List.getElem_set_self,List.take_set_of_le (Γ i),u],by show (a.set i a[j]).drop (j+1)=l.drop (j+1);rw [List.drop_set_of_lt (by omega),<-List.tail_drop,<-List.tail_drop,o]⟩,by show l.length - (j+1)<l.length - j;omega,AU H [930,41] Z (Z) ⟨Z,Z,Z,Z,trivial⟩⟩
   .have t:UA S l[j]=true:=by rw [<-u];simpa using v
    refine AX (AE (goMv Z Z (J (Ah Z Z (AK (j+1) (by omega)) Z) (AB Z Z (AC ?_)))));exact ⟨(i,j+1,a),⟨by show j+1<=_;omega,by show i<j+1;omega,f,by show a.take i=ND S (l.take (j+1));rw [Ry g t,n],by show a.drop (j+1)=l.drop (j+1);rw [<-List.tail_drop,<-List.tail_drop,o]⟩,by show l.length - (j+1)<l.length - j;omega,AU H [930,41] Z (Z) ⟨Z,Z,Z,Z,trivial⟩⟩
  .refine Ar (AD ?_);have M:j=l.length:=by have h:=w;omega
   have s:a.take i=ND S l:=by rw [n,M,ωl]
   have D:i=(ND S l).length:=by rw [<-s,ϱ];omega
   refine AE (goMv Z Z (goMv Z Z (NC (emb:=AF) (zd:=0) a i Z Z Z Z f.symm Z (by omega) underlying28 BD zeroValue3 Z Z Z Z Z Z ?_)));refine AC (AD (AE (goMv Z Z (goMv Z Z (J (ZcK (i) Z Z Z (by simp only [χ,Δ,ϱ,List.length_replicate];omega) Z underlying28 BD Z) (AB Z Z (AC (AZ ?_))))))));exact ⟨_,[930,41],_,AY Z,Z,Z,by rw [<-D],by rw [s,f,D]⟩
def R1 (N:MF):Prop:=∀b m,N b=some m ->m.FlatM
theorem Wb:R1 λ_=>none:=λ_ _ h=>nomatch h
theorem HO {b:Nat} {o:Ap} (h:R1 N) (a:o.FlatM):R1 (B6 N b o):=by grind [R1,B6]
theorem eS {b:Option (List Nat×Nat)} {l:List (Int×Bool)}:(Ap.map b (B5 AF Am l)).FlatM:=λe a=>by
 obtain ⟨x,_,rfl⟩:=Ξ.1 a;exact ⟨Z,Z⟩
theorem Yl (l:List Int) (p:l.Nodup) (x:l.length<=1000000):AT prog 66 [.d (.sl none (l.map AF))] [] λr v=>∃b N,r= .d (Pq b)/\v=[(41,[.multi N])]/\HT N b l/\R1 N:=by
 refine Ax func66 Z Z ntmps66 Z Z Z λF j=>(AD (AE (AB Z Z (AC ?_))));refine AD (IA 41 Z Z Z (AE (V (Ps 1 Z Z Z Z) (MN 6 1 41 j Z Z Z Z Z Z Z Z Z Z (λ_=>rfl) λm w=>(JQ 41 m Z (GF _ _ _) Z (V (CA 2 bB Z Z Z Z) (V (B4 Z Z Z Z Z Z Z bX) (AC ?_))))))));refine AD (AD (AE (goMv Z Z (J (BU Z underlying28 Z) (goMv Z Z (AC (A2 (BO (α:=Nat×MF) (λq=>⟨17,[(3,(.ptr 2 0 0)),(7,(.d (.sl none (l.map AF)))),(8,(.d (AF (l.length:Int)))),(9,(.d (AF (q.1:Int))))],[(2,[.blk 137 [.d (mD m)]]),(41,[.multi q.2])]⟩) (λq=>q.1<=l.length/\q.2 m=some (.map none (B5 AF Am (BS (l.take q.1))))/\R1 q.2) (λq=>l.length - q.1) ((0,_)) (⟨ζ _,GF _ _ _,by exact HO (HO Wb (by intro e o;cases o)) (by intro e o;cases o)⟩) (AU j [2,41] Z Z ⟨Z,Z,Z,Z,trivial⟩) ?_))))))));rintro ⟨k,N⟩ ⟨s,i,g⟩;dsimp only at s i g⊢;refine AD (AE (J (Az Z Z Z) (AC (AD (A7 Z (λh=>?_) (λh=>?_))))))
 .refine AX (AD (A2 (AD ?_)));have a:k<l.length:=BR h;refine AE (J (BC (k) Z Z (Z) (A3 a) underlying28 Z BD Z) (J (CF Z Z Ai Z) (AB Z Z (AC ?_))));refine AE (J (AQ Z Z Z Ql Z) (goMv Z Z (V (OV (f:=41) (BS (l.take k)) l[k] true Z Z i Z En IN Z Z) (AC (AE (J (Ah Z Z (AK (k+1) (by omega)) Z) (goMv Z Z (AC ?_))))))));exact ⟨(k+1,_),⟨a,by show B6 _ _ _ _=_;rw [GF,ψ a,ao (Ks p a)],HO g eS⟩,by show l.length - (k+1)<l.length - k;omega,AU j [2,41] Z (Z) ⟨Z,Z,Z,Z,trivial⟩⟩
 .refine Ar (AD ?_);have n:k=l.length:=by have:=h;omega
  rw [n,ωl] at i;refine gA (ds:=[mD m]) 3 2 41 j Z Z Z Z Z Z Z Z Z Z Z (λ_=>rfl) λb u=>(AE (J (Yd (ds:=[]) (es:=[pD b 0]) Z Z Z Z Z) (AB Z Z (AC (AZ ?_)))));exact ⟨_,[41],_,AY Z,Z,Z,b,_,Z,Z,⟨m,GF _ _ _,by rw [IB (λe=>by rw [e,u] at i;cases i)];exact i⟩,HO g (λc t=>by rw [κ.1 t];rfl)⟩
end Go.Proofs.YteifpcnphnhaoaaGreat
