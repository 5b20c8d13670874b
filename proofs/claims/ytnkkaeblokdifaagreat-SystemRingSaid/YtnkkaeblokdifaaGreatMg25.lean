import Derived.Test.YtnkkaeblokdifaaGreatMg24
open Go.Proofs.Tryz
set_option maxHeartbeats 4000000
namespace Go.Proofs.YtnkkaeblokdifaaGreat
open Go.RowKit
variable {g:List (List Nat)} {a:Nat ->Nat}
set_option maxRecDepth 100000
theorem Sw (g:List (List Nat)) (U:GT g):AK prog 152 [.d (LM g)] [] λr H'=>∃of cnt,e9 g.length (cx g) of cnt/\r= .tup [.own 10 0 cnt,.d (dI ((List.range g.length).map λv=>dt g of cnt (of v)))]/\H'=[(10,[.rowD 33 1 ((bR cnt (FR (λv=>dt g of cnt (of v)) g.length)).map dI)])]:=by
 have hn:=U.gb.n;refine Av func152 Z Z ntmps152 Z Z Z λF A=>(AC (AE (AB Z Z (AB Z Z (AD (AC (AE (cl Z Z ?_))))))));refine CZ (WW (Sx g U.gb) Z [2] ⟨Z,trivial⟩ Z Z Z Z (λr H' ⟨of,cnt,h1,h2,h3⟩=>by subst h2 h3;exact ⟨Z,Z,Z⟩) Z) Z ?_;rintro _ ⟨r,H',⟨of,cnt,t,rfl,rfl⟩,rfl⟩;refine cl Z Z (J (C8 Z Z Z) (J (C8 Z Z Z) (AB Z Z (AB Z Z (AD (AC ?_))))));have hcn:=t.le;refine AE (cl Z Z (V (EX 6 BX Z Z Z (by omega) mJ Z Z Z Z) (V (CE 5 oy Z Z Z Z) (V (Bk Z Z Z Z Z Z Z Ca) (AD (AC (AC ?_)))))));rw [mg];refine AE (cl Z Z (J (JB Z (ψ ..) No Z) (J (Pg Z Z (Ξ _ (by omega)) Z) (OJ 29 (.d (AF ((g.length:Int) - 1 - ((0:Nat):Int)))) Z (eqv (dc AF (by omega))) (AB Z Z (AD (A2 (Bb (α:=Nat) (λd=>⟨142,[(0,.d (LM g)),(4,(.own 2 0 g.length)),(5,(.d (AL cnt))),(6,(.ptr 5 0 0)),(7,(.d (AF ((g.length:Int) - 1 - (d:Int)))))],[(2,[.rowD 3 1 (rowN g.length of)]),(5,[.blk 33 [.own 6 0 cnt]]),(6,[.rowD 3 1 (rowN cnt (gz of g.length d))])]⟩) (λd=>d<=g.length) (λd=>g.length - d) (0) (ϱ _) (A0 A [2,5,6] Z Z ⟨Z,Z,Z,Z,Z,trivial⟩) ?_))))))));intro d hd;refine AC (AC (AE (cl Z Z (J (D2 Z Z Z) (AD (Ah Z (λh31=>?_) (λh31=>?_)))))))
 .refine AZ (AC (A2 ?_));have P:g.length - 1 - d<g.length:=by omega
  refine ca 7 (.d (AL (g.length - 1 - d))) Z (eqv (dc AF (by omega))) ?_;have hoc:=t.lt _ P;refine Dr [[],[],[],[1,2],[1,2,3],[],rg 6,rg 7] mixed Z (E6 (BQ [6] Z Z (λ_=>A9 (A5 Z Z Z BI Z)) ?_));refine At 4 Z Z (At 7 Z Z (BQ [35,36] Z Z (λ_=>A9 (C7 (g.length - 1 - d) Z Z (Z) (P) Z E0 B4 Z)) (BQ [37] Z Z (λ_=>A9 (DX Z Z (Lz P) Z BE Z)) (At 7 Z Z (Dh 6 Z Z Z (An 7 Z Z (J (C7 (of (g.length - 1 - d)) Z Z (Z) (hoc) Z E0 B4 Z) (AD ⟨Z,?_⟩))))))));refine An 8 Z Z (V (W1 Z Z Z Z Z (by rw [DF];exact hoc) DE Z B4) (AD ⟨Z,?_⟩));refine Dg (AE (cl Z Z (J (Pg Z Z (Ξ _ (by omega)) Z) (OJ 33 (.d (AF ((g.length:Int) - 1 - ((d+1:Nat):Int)))) Z (eqv (dc AF (by omega))) (AB Z Z (AD ?_))))));exact ⟨d+1,by omega,by omega,A0 A [2,5,6] Z (Z) ⟨Z,Z,Z,Z,Z,trivial⟩⟩
 .refine BL (AC ?_);have hdn:d=g.length:=by omega
  subst hdn;refine AE (cl Z Z (V (EX 7 VS Z Z Z (by omega) pI Z Z Z Z) (AB Z Z (AD (AC (AC ?_))))));refine Pa 7 0 (ed cnt (λ_=>none) (λ_=> [])) Z (by rw [Et,List.length_replicate]) (Rz cnt) ⟨V5 _,JV _ _ _⟩ Z (IS 40 Z Z Z (AE (cl Z Z (J (JB Z (ψ ..) No Z) (cl Z Z (AD (A2 (Bb (α:=Nat×MF×(Nat ->Hd)) (λq=>⟨142,[(0,.d (LM g)),(4,(.own 2 0 g.length)),(5,(.d (AL cnt))),(6,(.ptr 5 0 0)),(8,(.own 7 0 cnt)),(43,(.d (LM g))),(44,(.d (AL g.length))),(45,(.d (AL q.1)))],[(2,[.rowD 3 1 (rowN g.length of)]),(5,[.blk 33 [.own 6 0 cnt]]),(6,[.rowD 3 1 (rowN cnt (gz of g.length g.length))]),(7,[.rowD 33 1 (ed cnt q.2.2 (Ls g of q.1 0))]),(40,[.multi q.2.1])]⟩) (λq=>q.1<=g.length/\L8 q.2.1 cnt q.2.2 (Ls g of q.1 0)) (λq=>g.length - q.1) ((0,λ_=>none,λ_=>none)) (⟨ϱ _,by rw [bd];exact L8.zero _⟩) (A0 A [2,5,6,7,40] Z Z ⟨Z,Z,Z,Z,Z,Z,Z,Z,trivial⟩) ?_))))))));rintro ⟨i,M,G⟩ ⟨hi,z⟩;dsimp only at hi z⊢;refine AC (AE (J (BW Z Z Z) (AD (AC (Ah Z (λT=>?_) (λT=>?_))))))
  .refine AZ (AC (A2 (AC ?_)));have l:i<g.length:=Bi T;have s:=t.lt i l;refine AE (cl Z Z (J (Bq (i) Z Z (Z) (Xr l) No Z Ca Z) (J (EJ Z Z BI Z) (AB Z Z (AB Z Z ?_)))));refine AD (AC (AE (cl Z Z (J (JB Z (ψ ..) E0 Z) (cl Z Z (AD (A2 (Bb (α:=Nat×MF×(Nat ->Hd)) (λq=>⟨142,[(0,.d (LM g)),(4,(.own 2 0 g.length)),(5,(.d (AL cnt))),(6,(.ptr 5 0 0)),(8,(.own 7 0 cnt)),(9,(.d (AL i))),(43,(.d (LM g))),(44,(.d (AL g.length))),(45,(.d (AL i))),(50,(.d (dI (cx g i)))),(51,(.d (AL (cx g i).length))),(52,(.d (AL q.1)))],[(2,[.rowD 3 1 (rowN g.length of)]),(5,[.blk 33 [.own 6 0 cnt]]),(6,[.rowD 3 1 (rowN cnt (gz of g.length g.length))]),(7,[.rowD 33 1 (ed cnt q.2.2 (Ls g of i q.1))]),(40,[.multi q.2.1])]⟩) (λq=>q.1<=(cx g i).length/\L8 q.2.1 cnt q.2.2 (Ls g of i q.1)) (λq=>(cx g i).length - q.1) ((0,M,G)) (⟨ϱ _,z⟩) (A0 A [2,5,6,7,40] Z Z ⟨Z,Z,Z,Z,Z,Z,Z,Z,Z,Z,Z,Z,trivial⟩) ?_))))))));rintro ⟨k,M,G⟩ ⟨hk,z⟩;dsimp only at hk z⊢;refine AC (AE (J (BW Z Z Z) (AD (AC (Ah Z (λS=>?_) (λS=>?_))))))
   .refine AZ (AC (A2 (AC ?_)));have o:k<(cx g i).length:=Bi S;have hgn:=NE o;have hsl:=U.gb.len l;have D:cz (cx g i) k<g.length:=U.gb.suc l (DK o);have H:=be (of:=of) o;have I:=bf (of:=of) o
    obtain ⟨j,hje⟩:∃j,cz (cx g i) k=j:=⟨_,Z⟩
    rw [hje] at hgn D H I;have hln:=WH g of i k (of i);have hlt:=dh (O6 g (Nat.le_of_lt l)) U.tot;have hlt2:((cx g i).take k).length<=1048576:=by rw [Θ];omega
    refine AE (J (Bq (k) Z Z (Z) (hgn) E0 Z B4 Z) ?_);refine J (EJ Z Z BE Z) (AB Z Z (AD (AC (Dr [[],[],[0,1],[0,1,2],[],[],[4,5],[4,5,6],rg 8] mixed Z (E6 (At 4 Z Z (At 9 Z Z (BQ [56,57] Z Z (λ_=>A9 (C7 (i) Z Z (Z) (l) Z E0 B4 Z)) ?_))))))));refine BQ [58] Z Z (λ_=>A9 (DX Z Z (Lz l) Z BE Z)) (At 4 Z Z (At 12 Z Z (BQ [60,61] Z Z (λ_=>A9 (C7 (j) Z Z (Z) (D) Z E0 B4 Z)) (BQ [62] Z Z (λ_=>A9 (DX Z Z (Lz D) Z BE Z)) (Dh 8 Z Z Z (An 9 Z Z (J (EO Z Z Z) (AD ⟨Z,?_⟩))))))));refine Dg (Ah Z (λR=>?_) (λR=>?_))
    .have w:=H (λe=>R (dc Int.ofNat e));refine Dr [[],[],[],[1,2],[1,2,3],[],[],[],[6,7],[6,7,8],[5,6,7,8,9],[5,6,7,8,9,10],[],[],[12,13],[12,13,14],[12,13,14,15],[5,6,7,8,9,10,11,12,13,14,15,16],rg 18,rg 19] mixed Z (E6 (At 8 Z Z (At 4 Z Z (At 9 Z Z (By [66,67] [2] Z Z (λ_=>A9 (C7 (i) Z Z (Z) (l) Z E0 B4 Z)) (By [68] [2] Z Z (λ_=>A9 (DX Z Z (Lz l) Z BE Z)) ?_))))));refine At 8 Z Z (At 4 Z Z (At 9 Z Z (By [71,72] [2] Z Z (λ_=>A9 (C7 (i) Z Z (Z) (l) Z E0 B4 Z)) (By [73] [2] Z Z (λ_=>A9 (DX Z Z (Lz l) Z BE Z)) (By [70,74] [7] Z Z (λ_=>A9 (C7 (of i) Z Z (Z) (s) Z No Ca Z)) (By [75] [7] Z Z (λ_=>A9 (DX Z Z (JO s) Z BI Z)) (At 4 Z Z (At 12 Z Z ?_))))))));refine By [77,78] [2] Z Z (λ_=>A9 (C7 (j) Z Z (Z) (D) Z E0 B4 Z)) (By [79] [2] Z Z (λ_=>A9 (DX Z Z (Lz D) Z BE Z)) (IU [80] [21] [(81,_)] Z Z (λ_=>IV (EH 21 BX Z Z Z Z Z Z Z Z)) (.inr ⟨81,_,Z,Z,Z,Z,Z⟩) Z Z Z Z Z (IU [76,81] [60,40,21] [(82,_)] Z Z (λ_=>IV (GZ 76 60 40 (z.at_ (of i) s) Z Z (by rw [ψ]) Z Z Z Z Z (Ic (emb:=AL) (Ls g of i k (of i)) [of j] Z Z Z Z Z Z Z Z BX (by show ((Ls g of i k (of i)).length+1)*8<=_;omega) Z Z Z Z))) (.inr ⟨82,_,Z,Z,Z,Z,Z⟩) Z Z Z Z Z (Dh 18 Z Z Z (An 19 Z Z (Ee 82 60 40 A Z Z Z (by rw [ψ]) (by simp) Z Z Z Z Z Z Z (λ_ _=>rfl) λb c hb hc=>(J (C7 (of i) Z Z (Z) (s) Z No Ca Z) (AD ⟨Z,?_⟩))))))));refine An 20 Z Z (V (W1 Z Z Z Z Z (by rw [Et];exact s) (R5 (h:=some (b,c))) Z Ca) (AD ⟨Z,?_⟩));refine Dg (AE (J (Aw Z Z (Ξ _ (by omega)) Z) (cl Z Z (AD ?_))));exact ⟨(k+1,BM (BV M (G (of i))) b (.row 3 1 c ((Ls g of i k (of i)++ [of j]).map AL)),Al G (of i) (some (b,c))),⟨o,by have:=z.app s hb hc;rw [w] at this;exact this⟩,by show (cx g i).length - (k+1)<(cx g i).length - k;omega,A0 A [2,5,6,7,40] Z (by rw [w];rfl) ⟨Z,Z,Z,Z,Z,Z,Z,Z,Z,Z,Z,Z,trivial⟩⟩
    .have X:=I (λh=>R (λe=>h (Int.ofNat.inj e)));refine AZ (AE (J (Aw Z Z (Ξ _ (by omega)) Z) (cl Z Z (AD ?_))));exact ⟨(k+1,M,G),⟨o,by rw [<-X];exact z⟩,by show (cx g i).length - (k+1)<(cx g i).length - k;omega,A0 A [2,5,6,7,40] Z (by rw [<-X];rfl) ⟨Z,Z,Z,Z,Z,Z,Z,Z,Z,Z,Z,Z,trivial⟩⟩
   .refine BL ?_;have hke:k=(cx g i).length:=by have:=S;omega
    subst hke;refine AE (J (Aw Z Z (Ξ _ (by omega)) Z) (cl Z Z (AD ?_)));exact ⟨(i+1,M,G),⟨l,by rw [<-WG];exact z⟩,by show g.length - (i+1)<g.length - i;omega,A0 A [2,5,6,7,40] Z (by rw [WG];rfl) ⟨Z,Z,Z,Z,Z,Z,Z,Z,trivial⟩⟩
  .refine BL (AC ?_);have N:i=g.length:=by have:=T;omega
   subst N;refine c7 7 0 40 ((Ju g of cnt).map dI) Z Z Z Z Z (by rw [ψ,Ju,T0,Et]) z.melt ⟨JV _ _ _,Zx _⟩ Z (L6 (emb:=dI) 8 7 (Ju g of cnt) Z Z Z (T0 _ _).symm Z Z Z ?_);rw [ZW cnt];have hll:=jY of g.length cnt;have hob:=Zu (Ta of g.length cnt) (Ju g of cnt) (nt U t) (by rw [Ju,T0];exact nL t) (by rw [Ju,T0,hll]);rw [<-Ta,show (AV.own 6 0 cnt)= .own 6 0 (Ta of g.length cnt).length by rw [hll]];refine AE (cl Z Z ?_);refine J (oZ Z Z) (V (Eh hob Z [5,6] ⟨Z,Z,trivial⟩ Z Z Z Z Z Z Z Z Z) (cl Z Z (J (Ds Z Z Z) (J (Ds Z Z Z) (AB Z Z (AB Z Z (AD (AC ?_))))))));have hsq:eX (Ju g of cnt) (cz (Ta of g.length cnt))=fK g of cnt:=rfl;have y:=Zw (Ju g of cnt) (cz (Ta of g.length cnt));have B:∀k,k<(fK g of cnt).length ->cz (fK g of cnt) k<cnt:=λk hk=>by have:=jD (g:=Ju g of cnt) (K:=cz (Ta of g.length cnt)) hk;rwa [Ju,T0] at this
   rw [Ju,T0,<-Ju] at y;rw [hsq] at y⊢;refine AE (cl Z Z (V (EX 9 BX Z Z Z (by omega) mJ Z Z Z Z) (AB Z Z (AD (AC (AC ?_))))));rw [mg]
   obtain ⟨a,C⟩:∃a,fK g of cnt=a:=⟨_,Z⟩
   rw [C] at y B⊢;refine AE (cl Z Z (J (JB Z (ψ ..) E0 Z) (cl Z Z (AD (A2 (Bb (α:=Nat) (λk=>⟨142,[(0,.d (LM g)),(4,(.own 2 0 g.length)),(5,(.d (AL cnt))),(15,(.own 9 0 cnt)),(94,(.d (dI a))),(95,(.d (AL a.length))),(96,(.d (AL k)))],[(2,[.rowD 3 1 (rowN g.length of)]),(9,[.rowD 3 1 (rowN cnt (Cw a k))])]⟩) (λk=>k<=a.length) (λk=>a.length - k) (0) (ϱ _) (A0 A [2,9] Z Z ⟨Z,Z,Z,Z,Z,Z,Z,trivial⟩) ?_))))));intro k hk;refine AC (AE (J (BW Z Z Z) (AD (AC (Ah Z (λQ=>?_) (λQ=>?_))))))
   .refine AZ (AC (A2 (AC ?_)));have o:k<a.length:=Bi Q;refine AE (cl Z Z (J (Bq (k) Z Z (Z) (NE o) E0 Z B4 Z) (J (EJ Z Z BE Z) (AB Z Z (AB Z Z (AD (AE (cl Z Z ?_))))))));refine cl Z Z (cl Z Z (J (C7 (cz a k) Z Z (Z) (B k o) Z E0 B4 Z) (V (W1 Z Z Z Z Z (by rw [DF];exact B k o) DE Z B4) (AD (AE (J (Aw Z Z (Ξ _ (by omega)) Z) (cl Z Z (AD ?_))))))));exact ⟨k+1,o,by omega,A0 A [2,9] Z (Z) ⟨Z,Z,Z,Z,Z,Z,Z,trivial⟩⟩
   .refine BL (AC ?_);have hks:k=a.length:=by have:=Q;omega
    subst hks;refine AE (cl Z Z (V (EX 10 R1 Z Z Z (by omega) pI Z Z Z Z) (AB Z Z (AD (AC (AC (Pa 10 0 (ed cnt (λ_=>none) (λ_=> [])) Z (by rw [Et,List.length_replicate]) (Rz cnt) ⟨V5 _,JV _ _ _⟩ Z (IS 40 Z Z Z ?_))))))));have hno:∀v,v<g.length ->Cw a a.length (of v)<cnt:=λv hv=>Vg a (Nat.lt_of_le_of_lt (ϱ _) (t.lt v hv)) y _ (κ _) _;refine AE (cl Z Z (J (JB Z (ψ ..) No Z) (cl Z Z (AD (A2 (Bb (α:=Nat×MF×(Nat ->Hd)) (λq=>⟨142,[(0,.d (LM g)),(4,(.own 2 0 g.length)),(15,(.own 9 0 cnt)),(18,(.own 10 0 cnt)),(109,(.d (AL g.length))),(110,(.d (AL q.1)))],[(2,[.rowD 3 1 (rowN g.length (jM of (λv=>Cw a a.length (of v)) q.1))]),(9,[.rowD 3 1 (rowN cnt (Cw a a.length))]),(10,[.rowD 33 1 (ed cnt q.2.2 (FR (λv=>Cw a a.length (of v)) q.1))]),(40,[.multi q.2.1])]⟩) (λq=>q.1<=g.length/\L8 q.2.1 cnt q.2.2 (FR (λv=>Cw a a.length (of v)) q.1)) (λq=>g.length - q.1) ((0,λ_=>none,λ_=>none)) (⟨ϱ _,L8.zero _⟩) (A0 A [2,9,10,40] Z Z ⟨Z,Z,Z,Z,Z,Z,trivial⟩) ?_))))));rintro ⟨i,M,G⟩ ⟨hi,z⟩;dsimp only at hi z⊢;refine AC (AE (J (BW Z Z Z) (AD (AC (Ah Z (λE=>?_) (λE=>?_))))))
    .refine AZ (AC (A2 (AC ?_)));have l:i<g.length:=Bi E;have s:=t.lt i l;have w:=XM (λv=>Cw a a.length (of v)) i;have L:=aC of (λv=>Cw a a.length (of v)) i;have u:=hno i l;have hofi:jM of (λv=>Cw a a.length (of v)) i i=of i:=η (gc _);have hofj:jM of (λv=>Cw a a.length (of v)) (i+1) i=Cw a a.length (of i):=ϖ (gA _);have hgo:=Lz (f:=jM of (λv=>Cw a a.length (of v)) i) l;have O:=Lz (f:=jM of (λv=>Cw a a.length (of v)) (i+1)) l;rw [hofi] at hgo;have Y:=Lz (f:=Cw a a.length) s
     first | dsimp only at w L | skip
     obtain ⟨x,W⟩:∃x,Cw a a.length (of i)=x:=⟨_,Z⟩
     rw [hofj,W] at O;rw [W] at w L u Y;have hln:=Zt (λv=>Cw a a.length (of v)) i x;refine AE (cl Z Z (AB Z Z (AD ?_)));refine AC (AE (cl Z Z (cl Z Z (cl Z Z (cl Z Z (cl Z Z (J (C7 (i) Z Z (Z) (l) Z E0 B4 Z) (J (DX Z Z (hgo) Z BE Z) ?_))))))));refine J (C7 (of i) Z Z (Z) (s) Z E0 B4 Z) (J (DX Z Z (Y) Z BE Z) (J (C7 (i) Z Z (Z) (l) Z E0 B4 Z) (V (W1 Z Z Z Z Z (by rw [DF];exact l) (DE.trans (by rw [L])) Z B4) (AD (Dr [[],[],[],[1,2],[1,2,3],[],[],[],[6,7],[6,7,8],[5,6,7,8,9],[5,6,7,8,9,10],[],[12],[5,6,7,8,9,10,11,12,13],rg 15,rg 16] mixed Z (E6 (At 18 Z Z (At 4 Z Z ?_))))))));refine At 19 Z Z (By [124,125] [2] Z Z (λ_=>A9 (C7 (i) Z Z (Z) (l) Z E0 B4 Z)) (By [126] [2] Z Z (λ_=>A9 (DX Z Z (O) Z BE Z)) (At 18 Z Z (At 4 Z Z (At 19 Z Z (By [129,130] [2] Z Z (λ_=>A9 (C7 (i) Z Z (Z) (l) Z E0 B4 Z)) (By [131] [2] Z Z (λ_=>A9 (DX Z Z (O) Z BE Z)) (By [128,132] [10] Z Z (λ_=>A9 (C7 (x) Z Z (Z) (u) Z Ri Ca Z)) ?_))))))));refine By [133] [10] Z Z (λ_=>A9 (DX Z Z (JO u) Z BI Z)) (At 19 Z Z (IU [135] [21] [(136,_)] Z Z (λ_=>IV (EH 21 BX Z Z Z Z Z Z Z Z)) (.inr ⟨136,_,Z,Z,Z,Z,Z⟩) Z Z Z Z Z (IU [134,136] [60,40,21] [(137,_)] Z Z (λ_=>IV (GZ 134 60 40 (z.at_ x u) Z Z (by rw [ψ]) Z Z Z Z Z (Ic (emb:=AL) (FR (λv=>Cw a a.length (of v)) i x) [i] Z Z Z Z Z Z Z Z BX (by show ((FR (λv=>Cw a a.length (of v)) i x).length+1)*8<=_;omega) Z Z Z Z))) (.inr ⟨137,_,Z,Z,Z,Z,Z⟩) Z Z Z Z Z (Dh 15 Z Z Z (An 16 Z Z (Ee 137 60 40 A Z Z Z (by rw [ψ]) (by simp) Z Z Z Z Z Z Z (λ_ _=>rfl) λb c hb hc=>(J (C7 (x) Z Z (Z) (u) Z Ri Ca Z) (AD ⟨Z,?_⟩))))))));refine An 17 Z Z (V (W1 Z Z Z Z Z (by rw [Et];exact u) (R5 (h:=some (b,c))) Z Ca) (AD ⟨Z,?_⟩));refine Dg (AE (J (Aw Z Z (Ξ _ (by omega)) Z) (cl Z Z (AD ?_))));exact ⟨(i+1,BM (BV M (G x)) b (.row 3 1 c ((FR (λv=>Cw a a.length (of v)) i x++ [i]).map AL)),Al G x (some (b,c))),⟨l,by have:=z.app u hb hc;rw [w] at this;exact this⟩,by show g.length - (i+1)<g.length - i;omega,A0 A [2,9,10,40] Z (by rw [w];rfl) ⟨Z,Z,Z,Z,Z,Z,trivial⟩⟩
    .refine BL (AC ?_);have N:i=g.length:=by have:=E;omega
     subst N;have hof:rowN g.length (jM of (λv=>Cw a a.length (of v)) g.length)=((List.range g.length).map λv=>Cw a a.length (of v)).map AL:=by rw [dl];exact eE λv hv=>dc AL (ϖ (Γ.1 hv))
     rw [hof];refine c7 10 0 40 ((bR cnt (FR (λv=>Cw a a.length (of v)) g.length)).map dI) Z Z Z Z Z (by rw [ψ,T0,Et]) z.melt ⟨JV _ _ _,Zx _⟩ Z (L6 (emb:=AL) 4 2 ((List.range g.length).map λv=>Cw a a.length (of v)) Z Z Z (by simp) Z Z Z (AE (cl Z Z (cl Z Z (AB Z Z (AB Z Z (AD (A6 ?_))))))));exact ⟨_,[10],_,A4 Z,Z,Z,of,cnt,t,by unfold dt;rw [C],by unfold dt;rw [C]⟩
noncomputable def kG (g:List (List Nat)):(Nat ->Nat)×Nat:=Classical.epsilon λp=>CN g.length (cx g) p.1 p.2
noncomputable def gy (g:List (List Nat)):Nat ->Nat:=(kG g).1
noncomputable def fV (g:List (List Nat)):Nat:=(kG g).2
theorem Q8 (i:GB g) {cnt:Nat} (h:CN g.length (cx g) a cnt):CN g.length (cx g) (gy g) (fV g)/\cnt=fV g/\∀v,v<g.length ->a v=gy g v:=by
 have b:CN g.length (cx g) (kG g).1 (kG g).2:=Classical.epsilon_spec (p:=λp:(Nat ->Nat)×Nat=>CN g.length (cx g) p.1 p.2) ⟨(a,cnt),h⟩;exact ⟨b,kL h b λv f y c=>i.suc f c⟩
noncomputable def dp (g:List (List Nat)):List (List Nat):=bR (fV g) (FR (gy g) g.length)
noncomputable def sY (g:List (List Nat)):List Nat:=(List.range g.length).map (gy g)
theorem UQ {b:Nat ->Nat} {n:Nat} (h:∀v,v<n ->a v=b v):FR a n=FR b n:=by grind [FR,fZ]
theorem Sv (g:List (List Nat)) (b:GT g):AK prog 152 [.d (LM g)] [] λr h=>r= .tup [.own 10 0 (fV g),.d (dI (sY g))]/\h=[(10,[.rowD 33 1 ((dp g).map dI)])]:=
 (Sw g b).mono λr h ⟨c,cnt,a,j,o⟩=>by
  obtain ⟨_,s,f⟩:=Q8 b.gb (Ui b a);have k:=UQ f;have l:(List.range g.length).map (λv=>dt g c cnt (c v))=sY g:=eE λv i=>f v (Γ.1 i);rw [j,o,k,l,s];exact ⟨Z,Z⟩
def lI (g:List (List Nat)):List (List Int):=g.map (List.map Int.ofNat)
theorem mQ (g:List (List Nat)):ll (lI g)=LM g:=by simp [*,lI]
theorem JE (g:List (List Nat)):(lI g).length=g.length:=by simp [lI]
theorem VA (g:List (List Nat)):∀i,i<=g.length ->KM (lI g) i=Ig g i
 | 0,_=>rfl
 | i+1,b=>by
  have a:=VA g i (by omega);rw [KL (by rw [JE];omega),a];unfold Ig;rw [ea,du,gV,List.map_singleton,List.sum_singleton,Eo (by omega)]
  simp [lI]
theorem oO (a:GT g):TK (lI g)=0:=by
 have j:=a.gb.n;have i:=a.tot;refine (qw (by rw [JE];omega) (by rw [JE,VA g _ (κ _)];omega) ?_).symm;rintro ⟨l,h,x,c,k⟩;obtain ⟨m,f,rfl⟩:=υ.1 h;obtain ⟨y,b,rfl⟩:=υ.1 c;have:=a.gb.lt m f y b
 grind [JE]
theorem ie {l:List Nat} (h:l∈g):l.length<=Ig g g.length:=by
 obtain ⟨i,a,rfl⟩:=gK.1 h
 have b:Ig g (i+1)=Ig g i+g[i].length:=by
  grind [Ig,ea,Eo]
 have:=O6 g (i:=i+1) (j:=g.length) (by omega);omega
theorem kY (g:List (List Nat)) (a:GT g):AM prog 151 [.d (LM g)] (AF 0):=by
 have i:=a.gb.n;have f:=a.tot
 have h:=cN (lI g) (by rw [JE];omega) λl c=>by
  obtain ⟨m,b,rfl⟩:=υ.1 c;rw [ψ];have:=ie b;omega
 rw [mQ,oO a] at h;exact h
theorem Q9 (g:List (List Nat)) (a:GT g):AK prog 102 [.d (LM g)] [] λr b=>r= .tup [.own 10 0 (fV g),.d (AF 0)]/\b=[(10,[.rowD 33 1 ((dp g).map dI)])]:=by
 refine Av func102 Z Z ntmps102 Z Z Z λF c=>?_;refine AC (AE (AB Z Z (AB Z Z (AD (AC (AC (AE (cl Z Z ?_))))))));refine J (B5 (kY g a) Z Z) (AB Z Z (AD (AC (AE (cl Z Z (J (EO Z Z Z) (AD (EV Z (dw (by decide)) ?_))))))));refine AZ (AC (AE (cl Z Z (V (Eh (Sv g a) Z [10] ⟨Z,trivial⟩ Z Z Z Z Z Z Z Z Z) (cl Z Z (J (C8 Z Z Z) (J (C8 Z Z Z) (AB Z Z ?_))))))));refine AB Z Z (AD (AC (AE (cl Z Z (AB Z Z (AB Z Z (AD (A6 ?_))))))));exact ⟨_,[10],_,A4 Z,Z,Z,Z,Z⟩
theorem Z7 (a:Nat ->List Nat) (v:Nat):∃y,(Rh a v y/\Rh a y v)/\∀z,Rh a v z/\Rh a z v ->y<=z:=ln (λu=>Rh a v u/\Rh a u v) v v ⟨.refl v,.refl v⟩ (κ _)
noncomputable def ee (suc:Nat ->List Nat) (v:Nat):Nat:=Classical.choose (Z7 suc v)
theorem Fx (a:Nat ->List Nat) (v:Nat):(Rh a v (ee a v)/\Rh a (ee a v) v)/\∀z,Rh a v z/\Rh a z v ->ee a v<=z:=Classical.choose_spec (Z7 a v)
theorem VV {a:Nat ->List Nat} {i j:Nat}:ee a i=ee a j↔Rh a i j/\Rh a j i:=by
 obtain ⟨c,g⟩:=Fx a i;obtain ⟨b,f⟩:=Fx a j
 constructor
 .intro e;rw [<-e] at b;exact ⟨c.1.trans b.2,b.1.trans c.2⟩
 .intro h;exact Nat.le_antisymm (g _ ⟨h.1.trans b.1,b.2.trans h.2⟩) (f _ ⟨h.2.trans c.1,c.2.trans h.1⟩)
theorem ZQ (n:Nat) (a:Nat ->List Nat):∃l cnt,e9 n a l cnt:=by
 let b:=(List.range n).filter λv=>decide (ee a v=v)
 have o:b.Nodup:=List.nodup_range.filter _;have g:∀v,ee a v<=v:=λv=>(Fx a v).2 v ⟨.refl v,.refl v⟩;have h:∀v,ee a (ee a v)=ee a v:=λv=>VV.2 ⟨(Fx a v).1.2,(Fx a v).1.1⟩;have k:∀v,v<n ->ee a v∈b:=λv f=>Ψ.2 ⟨Γ.2 (Nat.lt_of_le_of_lt (g v) f),dm (h v)⟩;refine ⟨λv=>b.idxOf (ee a v),b.length,⟨λv f=>gi (k v f),λi j r t=>?_,λc s=>?_,?_⟩⟩
 .rw [<-VV]
  constructor
  .intro e;have x:=iA (gi (k i r))
   grind
  grind
 .obtain ⟨w,u⟩:=Ψ.1 (θ s)
  grind
 grind
theorem cD (g:List (List Nat)) (a:GT g):CN g.length (cx g) (gy g) (fV g):=by
 obtain ⟨b,cnt,h⟩:=ZQ g.length (cx g);exact (Q8 a.gb (Ui a h)).1
end Go.Proofs.YtnkkaeblokdifaaGreat
namespace Go.Proofs.YtnkkaeblokdifaaGreat
open Go.RowKit Go.Shelf
variable {g:List (List Nat)} {k:Nat} {s:List UInt8} {i:Nat} {a:Int} {x:List Nat} {c:dG} {f:List D} {h:Nat} {j:Int} {o:Nat} {M:MF} {t:List AO} {E:List (AG×Nat)} {u:D} {w y z:Nat} {A B:Int} {C:List Int} {F:Nat} {N:MF}
set_option maxRecDepth 100000
def J3 (g:List (List Nat)) (i j:Nat):Prop:=Rh (cx g) i j/\Rh (cx g) j i
theorem PI (g:List (List Nat)) (i:Nat):J3 g i i:=⟨.refl i,.refl i⟩
theorem X2 (h:J3 g i o):J3 g o i:=⟨h.2,h.1⟩
theorem Mj (h:J3 g i o) (a:J3 g o k):J3 g i k:=⟨h.1.trans a.1,a.2.trans h.2⟩
noncomputable def eF (g:List (List Nat)) (i:Nat):List Nat:=(List.range g.length).filter λj=>dec (J3 g i j)
noncomputable def fo (g:List (List Nat)):List Nat:=(List.range g.length).filter λi=>dec (∀j,j<i ->¬J3 g i j)
noncomputable def dT (g:List (List Nat)):List (List Nat):=eR ((fo g).map (eF g))
theorem TD:o∈eF g i↔o<g.length/\J3 g i o:=by
 unfold eF;rw [Ψ,Γ,Gp]
theorem NF:i∈fo g↔i<g.length/\∀j,j<i ->¬J3 g i j:=by
 unfold fo;rw [Ψ,Γ,Gp]
theorem kP (h:J3 g i o):eF g i=eF g o:=by grind [eF,Gp,Mj,X2]
theorem TC (g:List (List Nat)) (i:Nat):(eF g i).Pairwise (· < ·):=List.Pairwise.sublist fv List.pairwise_lt_range
theorem S6 (g:List (List Nat)):(fo g).Pairwise (· < ·):=List.Pairwise.sublist fv List.pairwise_lt_range
theorem Qd (h:i∈fo g):dr (eF g i)=(i:Int):=by
 obtain ⟨k,j⟩:=NF.1 h;have b:i∈eF g i:=TD.2 ⟨k,PI g i⟩;have c:=TC g i;unfold dr
 cases hc:eF g i with
 | nil=>rw [hc] at b;cases b
 | cons a t=>
  rw [hc] at b c;show ((a:Nat):Int)=_;have f:a∈eF g i:=by rw [hc];exact eI
  rcases di.1 b with e | e
  .rw [e]
  .have:=List.rel_of_pairwise_cons c e;exact absurd (TD.1 f).2 (j a this)
theorem jg (i:Nat) (a:i<g.length):∃k,k∈fo g/\J3 g i k:=by
 induction i using Nat.strongRecOn with
 | ind i b=>
  by_cases h:∀j,j<i ->¬J3 g i j
  .exact ⟨i,NF.2 ⟨a,h⟩,PI g i⟩
  grind [Mj]
theorem Rm (c:GT g) {v:Nat} (b:v<g.length):FR (gy g) g.length (gy g v)=eF g v:=by
 have f:=cD g c;unfold FR eF
 exact fZ λw a=>by
  rw [gv,decide_eq_true_iff,Gp];rw [eq_comm];exact f.scc v w b (Γ.1 a)
theorem J7 {l:List (List Nat)}:x∈eR l↔x∈l/\2<=x.length:=by
 unfold eR GH;rw [Ψ];simp
theorem Sy (b:GT g):x∈dp g↔∃i,i∈fo g/\x=eF g i:=by
 have f:=cD g b;unfold dp bR;rw [υ]
 constructor
 .rintro ⟨c,j,rfl⟩;obtain ⟨v,k,rfl⟩:=f.use c (Γ.1 j)
  grind [jg,Rm,kP]
 .rintro ⟨i,h,rfl⟩;have a:=(NF.1 h).1;exact ⟨gy g i,Γ.2 (f.lt i a),Rm b a⟩
theorem N0 (f:GT g):(dp g).Nodup:=by
 have h:=cD g f;unfold dp bR;rw [List.Nodup,ep];refine List.Pairwise.imp_of_mem (R:=λa b=>a<b) (λ{a b} j k i e=>?_) List.pairwise_lt_range;obtain ⟨v,c,rfl⟩:=h.use a (Γ.1 j);have l:v∈FR (gy g) g.length (gy g v):=by unfold FR;rw [Ψ];exact ⟨Γ.2 c,by simp⟩
 grind [FR]
theorem TE (a:GT g):x∈dT g↔x∈eR (dp g):=by grind [dT,J7,Sy]
theorem LR (g:List (List Nat)):(dT g).Pairwise λa b=>dr a<dr b:=by grind [dT,eR,List.Pairwise.imp_of_mem,S6,Qd]
theorem cM {y:List Nat} (b:x∈dT g) (a:y∈dT g) (h:dr x=dr y):x=y:=by
 unfold dT at b a;obtain ⟨i,f,rfl⟩:=υ.1 (J7.1 b).1;obtain ⟨j,c,rfl⟩:=υ.1 (J7.1 a).1;rw [Qd f,Qd c] at h;rw [Int.ofNat_inj.1 h]
theorem TF (f:GT g) (c:List (List Nat)) (i:c.Perm (eR (dp g))) (o:c.Pairwise λa b=>¬dr b - dr a<0):c=dT g:=by
 have j:c.Nodup:=i.nodup_iff.2 (List.Nodup.sublist fv (N0 f));have k:∀x,x∈c↔x∈dT g:=λx=>by rw [i.mem_iff,TE f]
 refine lx (R:=λa b=>dr a<dr b) (λx h=>by omega) (λx y z h t=>by omega) ?_ (LR g) k;refine List.Pairwise.imp_of_mem (λ{a b} s r l=>?_) (List.Pairwise.and o j)
 grind [cM]
theorem kW:Go.Sort.SWO (ltOf λa b:List Nat=>dr a - dr b):=by
 refine ⟨λx=>?_,λx y z h c=>?_,λx y z h c=>?_⟩
 all_goals (grind [ltOf])
theorem AK.fnArgA {P:Program} {f g:FuncId} {x:AV} {H:Hp} {R:AV ->Hp ->Prop} (h:AK P f [x,.d (.fn g [] [])] H R):AK P f [x,.d (.raw (.func (.func g) #[] #[]))] H R:=
 ⟨h.1,λF r vs y w k u t o=>h.2 F r vs y w k u t λi a v j l=>by
  rcases i with _ | _ | i
  .exact o 0 _ v j l
  .have e:a= .d (.fn g [] []):=by simpa using j.symm
   subst e;have:=o 1 _ v Z l
   cases this with
   | d s=>
    cases s with
    | raw _=>exact .d (.fn (us:=[]) (vs:=[]) Z Z (λi c v b=>by simp at b) λi c v b=>by simp at b)
  .simp at j⟩
theorem I3.l {N:MF} (h:I3 M F C):I3 (dW M N) F C:=by
 obtain ⟨m,c,a⟩:=h;exact ⟨m,H4 c,H4 a⟩
theorem I3.r {l:List Int} (j:∀i m a,M i=some m ->N i=some a ->False) (h:I3 N F l):I3 (dW M N) F l:=by
 obtain ⟨m,g,f⟩:=h
 have c:∀{i a},N i=some a ->M i=none:=λ{i a} h=>by
  cases e:M i with
  | none=>rfl
  | some x=>exact (j i _ _ e h).elim
 exact ⟨m,J4 (c g) g,J4 (c f) f⟩
theorem I3.put {g:Nat} {o:A7} (h:I3 N F C) (f:N g=none):I3 (BM N g o) F C:=by
 obtain ⟨m,c,a⟩:=h;exact ⟨m,by rw [Gz (λe=>by rw [e,f] at c;cases c)];exact c,by rw [Gz (λe=>by rw [e,f] at a;cases a)];exact a⟩
abbrev s6:FuncId:=101
def oj (L G:List Int) (id:Int):Bool:=decide (id∈L) && !decide (id∈G)
theorem kV {j i g h:Nat} {L G:List Int} (b:N j=some (.cells 121 [W8 g])) (a:N i=some (.cells 121 [W8 h])) (k:I3 N g L) (l:I3 N h G) (id:Int):
  AK prog s6 [.d (AF id),.d (pD j 0),.d (pD i 0)] [(41,[.multi N])] λr o=>r= .d (Ac (oj L G id))/\o=[(41,[.multi N])]:=by
 refine Av func101 Z Z ntmps101 Z Z Z λF s=>(AC (AE ?_));refine AB Z Z (AD (AC (AE (J (EI (f:=41) Z Z b Z l7 Z) (cl Z Z (V (Y0 (Hu k id) Z [41] ⟨Z,trivial⟩ Z Z Z Z Z Z Z Z Z) (cl Z Z (Id 8 Z (λc=>?_) (λc=>?_)))))))));refine Aa Z Z Z (J (EI (f:=41) Z Z a Z l7 Z) (Aa Z Z Z (cl Z Z (Aa Z Z Z (V (Y0 (Hu l id) Z [41] ⟨Z,trivial⟩ Z Z Z Z Z Z Z Z Z) (Aa Z Z Z (J (O2 Z Z) (J (FL Z Z Z Z) ?_))))))))
 rotate_left
 refine A8 Z Z Z Z (A8 Z Z Z Z (A8 Z Z Z Z (A8 Z Z Z Z (J (DT Z Z Z Z) ?_))))
 all_goals
  refine AB Z Z (AD (A6 ?_));exact ⟨_,[41],_,A4 Z,Z,Z,by {unfold oj;simp [c]},Z⟩
theorem nl (h:E.length<=1000):GT (fF t E):=by
 have a:∀l∈fF t E,l.length<=1000/\∀x∈l,x<E.length:=λl a=>by
  obtain ⟨e,_,rfl⟩:=υ.1 a;exact ⟨dh (Uz _ _ _ _) h,mP⟩
 refine ⟨⟨by rw [F7];omega,λl b=>by have:=(a l b).1;omega,λl b x f=>by rw [F7];exact (a l b).2 x f⟩,?_⟩
 have c:∀i,i<=(fF t E).length ->Ig (fF t E) i<=i*1000:=λi j=>by
  induction i with
  | zero=>exact ϱ _
  | succ i g=>
   grind [Eo,Ig,ea]
 grind [F7]
noncomputable def dj (p:dG):List (AG×Nat):=((dA p.it).filter λi=>oj (dE p) (CJ p) i.id).map λi=>(i,0)
theorem NV (p:dG):(dj p).map Prod.fst=(dA p.it).filter λi=>oj (dE p) (CJ p) i.id:=by unfold dj;rw [dl];exact List.map_id _
noncomputable def fq (rs:List AO) (E:List (AG×Nat)):List (List Int):=(dT (fF rs E)).map (EF E)
theorem kX (h:x∈dT g):2<=x.length/\x.length<=g.length/\∀k∈x,k<g.length:=by
 obtain ⟨b,a⟩:=J7.1 h
 grind [eF]
theorem cK (g:List (List Nat)):(dT g).length<=g.length:=by grind [dT,ak,fo]
theorem WM (a:GT g) (h:x∈dp g):x.length<=g.length/\∀k∈x,k<g.length:=by grind [Sy,eF]
theorem kJ (a:GT g):fV g<=g.length:=by
 obtain ⟨b,cnt,h⟩:=ZQ g.length (cx g);have:=(Q8 a.gb (Ui a h)).2.1;have:=h.le;omega
theorem Sz:(dp g).length=fV g:=by unfold dp;rw [T0]
theorem qm {l:List Nat} (a:0<l.length) (b:∀k∈l,k<h):l.getD 0 0<h:=by simp_all
theorem cJ (a:GT g):(dT g).length=(eR (dp g)).length:=by
 have c:(dT g).Nodup:=by
  grind [List.Pairwise.imp,LR]
 have b:(eR (dp g)).Nodup:=List.Nodup.sublist fv (N0 a);exact ((List.perm_ext_iff_of_nodup c b).2 λx=>TE a).length_eq
theorem Oj {b:List cw} {a:List AG}:∀(f:Nat) (c:Nat ->Bool) (x:Int),x∈KQ b a f c ->∃i,i<a.length/\c i=true/\x=(a.getD i cv).id
 | 0,_,_,h=>by cases h
 | f+1,c,x,h=>by
  cases hn:ES b a c with
  | none=>rw [Eb hn] at h;cases h
  | some i=>
   rw [Fw hn] at h;obtain ⟨r,k,_⟩:=H3 hn;rcases di.1 h with e | h
   .exact ⟨i,r,k,e⟩
   .obtain ⟨j,o,g,l⟩:=Oj f _ x h;refine ⟨j,o,?_,l⟩;unfold Af at g
    by_cases e:j=i
    .rw [e];exact k
    .simpa [e] using g
theorem MX {b:List cw} {a:List AG} (g:(a.map AG.id).Nodup):∀(f:Nat) (k:Nat ->Bool),(KQ b a f k).Nodup
 | 0,_=>List.nodup_nil
 | f+1,k=>by
  cases hn:ES b a k with
  | none=>rw [Eb hn];exact List.nodup_nil
  | some i=>
   rw [Fw hn];obtain ⟨t,u,_⟩:=H3 hn;refine gj.2 ⟨λh=>?_,MX g f _⟩;obtain ⟨j,s,r,o⟩:=Oj f _ _ h;have l:j≠i:=λe=>by subst e;unfold Af at r;simp at r
   rw [Δ,Δ,ω t,ω s] at o;have e:(a.map AG.id)[i]'(by simpa using t)=(a.map AG.id)[j]'(by simpa using s):=by rw [eP,eP];exact o
   rw [List.Nodup,fR] at g;rcases Nat.lt_trichotomy i j with c | c | c
   .exact g i j _ _ c e
   .exact l c.symm
   .exact g j i _ _ c e.symm
theorem SY (a:Ai c=0):(CJ c).Nodup:=MX (FZ a) _ _
theorem Xo (a:E9 c):(CJ c).length<=30:=by
 have h:=R3 (ros:=Bu c) (its:=dC c) (dC c).length λ_=>true;have b:=DH c;have:=a.i;unfold CJ;omega
theorem YC (p:dG) (B:E9 p) (v:Ai p=0):AM prog 53 [.d (CM p)] (.tup [X3 (fq (dX p) (dj p)),AF 0]):=by
 have hi30:=B.i;have hlk:=G9 p B v;have hgk:=SX p B v;have hO:dC p=dA p.it:=ϖ v;have hll:=Kd v;have hgn:(CJ p).Nodup:=SY v;have hgl:(CJ p).length<=30:=Xo B;refine Av func53 Z Z ntmps53 Z Z Z λF Y=>?_;refine AC (AE (V (CQ 1 Z Z Z Z Z Z Z) (AB Z Z (AB Z Z (AD (AC (AE (J (B1 Z Z Bc Z Z Z) ?_))))))));refine J (B5 (hlk) Z Z) (cl Z Z (J (Ds Z Z Z) (J (Ds Z Z Z) (AB Z Z (AB Z Z (AD (AC (AC ?_))))))));refine AE (cl Z Z (J (EO Z Z Z) (AD (EV Z (dw (by decide)) (AZ (AC (AE (J (B1 Z Z Bc Z Z Z) ?_))))))));refine J (B5 (hgk) Z Z) (cl Z Z (J (Ds Z Z Z) (J (Ds Z Z Z) (AB Z Z (AB Z Z (AD (AC (AC ?_))))))));refine AE (cl Z Z (J (EO Z Z Z) (AD (EV Z (dw (by decide)) (AZ (AC (AE (cl Z Z ?_))))))));refine CZ (WW (Fo (dE p) (F4 v) (by omega)) Z [41] ⟨Z,trivial⟩ Z Z Z Z (λr z ⟨b,N,i,h,_⟩=>by subst i h;exact ⟨Z,Z,Z⟩) Z) Z ?_;rintro _ ⟨r,z,⟨bl,N1,i,h,hWl⟩,rfl⟩;subst i h;refine cl Z Z ?_;refine CZ (WW ((Fo (CJ p) hgn (by omega)).byX [(41,42)] Z) Z [42] ⟨Z,trivial⟩ Z Z Z Z (λr z ⟨r0,H0,⟨b,N,i,h,_⟩,e3,e4⟩=>by subst e3 e4 i h;exact ⟨Z,Z,Z⟩) Z) Z ?_;rintro _ ⟨r,z,⟨r0,H0,⟨bg,N2,i,h,hWg⟩,e3,e4⟩,rfl⟩;subst e3 e4 i h;refine V (CE 7 lH Z Z Z Z) (V (CE 8 lH Z Z Z Z) (V (Bk Z Z Z Z Z Z Z lO) (V (Bk Z Z Z Z Z Z Z lO) (AD (AC (kg 42 41 Z Z Z Z Z Z Z Z Z λhdj=>?_))))));have Q:=hWl.l (N:=N2);have U:=I3.r hdj hWg;refine DR (ds:=[W8 bl]) 7 7 41 Y Z Z Z Z Z Z Z Z Z Z Z (λ_=>rfl) λb7 L=>?_;have P:=Q.put (o:= .cells 121 [W8 bl]) L;have S:=U.put (o:= .cells 121 [W8 bl]) L;refine DR (ds:=[W8 bg]) 8 8 41 Y Z Z Z Z Z Z Z Z Z Z Z (λ_=>rfl) λb8 s=>?_;have O:=P.put (o:= .cells 121 [W8 bg]) s;have R:=S.put (o:= .cells 121 [W8 bg]) s;have hq7:=GM (BM (dW N1 N2) b7 (.cells 121 [W8 bl])) b8 (.cells 121 [W8 bg]);refine AE (J (B1 Z Z Bc Z Z Z) (J (YZ (ds:=[]) (es:=[pD b7 0,pD b8 0]) Z Z Z Z Z) ?_));refine CZ (WW (P0 p v B s6 [pD b7 0,pD b8 0] _ (oj (dE p) (CJ p)) (kV (by rw [Gz (λe=>by rw [<-e,GM] at s;cases s)];exact GM _ _ _) hq7 O R)) Z [41,40] ⟨Z,Z,trivial⟩ Z Z Z Z (λr z ⟨E,M,i,h,_⟩=>by subst i h;exact ⟨Z,Z,Z⟩) Z) Z ?_;rintro _ ⟨r,z,⟨E,M,i,h,hR,u⟩,rfl⟩;subst i h;refine AB Z Z (AD (AC ?_));have W:E.map Prod.fst=(dj p).map Prod.fst:=by rw [u,hO,NV]
 have K:=Xq (rs:=dX p) (E:=E) (E':=dj p) W;have hn30:E.length<=30:=by have C:(E.map Prod.fst).length<=(dA p.it).length:=(by rw [u,hO];exact fx _ _);rw [ψ,kj] at C;omega
 have haf:∀e∈E,e.1.af.length<=100000:=λe he=>by have C:e.1∈E.map Prod.fst:=gp he;rw [u,hO] at C;have:=(B.x _ ((KD p.it).mem_iff.1 (Ψ.1 C).1)).2.2;omega
 have f:GT (fF (dX p) E):=nl (by omega)
 obtain ⟨g,t⟩:∃g,fF (dX p) E=g:=⟨_,Z⟩
 have hgl2:g.length=E.length:=by rw [<-t,F7]
 have G:=jf E hR (by omega) haf;rw [t] at f G;refine AE (cl Z Z (V (Eh G Z [40] ⟨Z,trivial⟩ Z Z Z Z Z Z Z Z Z) ?_));refine CZ (WW (Q9 g f) Z [10] ⟨Z,trivial⟩ Z Z Z Z (λr z ⟨i,h⟩=>by subst i h;exact ⟨Z,Z,Z⟩) Z) Z ?_;rintro _ ⟨r,z,⟨i,h⟩,rfl⟩;subst i h;refine cl Z Z (J (C8 Z Z Z) (J (C8 Z Z Z) (AB Z Z (AB Z Z (AD ?_)))));refine AC (AC (AE (cl Z Z (J (EO Z Z Z) (AD (EV Z (dw (by decide)) (AZ (AC ?_))))))));have hcl:fV g=(dp g).length:=Sz.symm;have hca:∀c∈dp g,c.length<=100000:=λc hc=>by have:=(WM f hc).1;omega
 have hcn30:(dp g).length<=30:=by rw [Sz];have:=kJ f;omega
 rw [hcl]
 obtain ⟨D,hjk⟩:∃D,(List.replicate ((dp g).length - (eR (dp g)).length) none).map eO=D:=⟨_,Z⟩
 have H:=(nz (dp g) (by omega) hca).fnArgA;rw [hjk] at H;have j:∀x∈eR (dp g),0<x.length/\x.getD 0 0<=100000:=λx A=>by have C:=J7.1 A;have h2:=(WM f C.1).2;have h3:=qm (by omega) h2;exact ⟨by omega,by omega⟩
 refine AE (cl Z Z (V (Eh H Z [10] ⟨Z,trivial⟩ Z Z Z Z Z Z Z Z Z) (AB Z Z (AD (AC (AE ?_))))));refine cl Z Z (V (Yw nO func107 Z Z (λ_=>rfl) (λa b=>dr a - dr b) kW (eR (dp g)) (dT g) D (by have:=ak (dp g);omega) (λx A y hy=>kU x y (j x A).1 (j y hy).1 (j x A).2 (j y hy).2) (λys g1 g2=>TF f ys g1 g2) Z Z Z Kq Z Z Z Z Z) (AD (AC (AE (AB Z Z (AD (AC (AC ?_))))))));have I:(eR (dp g)).length=(dT g).length:=(cJ f).symm;rw [I];have hc30:(dT g).length<=30:=by have:=cK g;omega
 refine AE (cl Z Z (J (Qs Z Ri Z) (cl Z Z (AD (A2 (O0 11 11 R1 Z Z Z Z (Bb (α:=Nat×List (List Int)) (λq=>⟨64,[(9,(.d (.sl none (E.map C5)))),(11,(.own 11 0 q.2.length)),(50,(.own 10 0 (dT g).length)),(51,(.d (AF ((dT g).length:Int)))),(52,(.d (AF (q.1:Int))))],[(11,[.rowD 33 1 (q.2.map Qp)]),(10,[.rowD 33 1 ((dT g).map dI++D)])]⟩) (λq=>q.1<=(dT g).length/\q.2=((dT g).take q.1).map (EF E)) (λq=>(dT g).length - q.1) ((0,[])) (⟨ϱ _,Z⟩) (A0 Y [11,10] Z Z ⟨Z,Z,Z,Z,Z,trivial⟩) ?_)))))));rintro ⟨k,T⟩ ⟨hk,X⟩;dsimp only at hk X⊢;refine AC (AE (J (BW Z Z Z) (AD (AC (Ah Z (λw=>?_) (λw=>?_))))))
 .refine AZ (AC (A2 (AC ?_)));have l:k<(dT g).length:=Bi w;obtain ⟨hx2,hxl,hxm⟩:=kX (θ l);have hTl:T.length<=30:=by rw [X,ψ,Θ];omega
  refine AE (J (C7 (k) Z Z (Z) (l) Z Ri Ca Z) (J (DX Z Z ((show ((dT g).map dI++D)[k]? =some (dI (dT g)[k]) from by rw [mG (by rw [ψ];exact l)];exact Aq l)) Z BI Z) ?_));refine AB Z Z (AD (AE (cl Z Z (cl Z Z (cl Z Z ?_)))));refine J (B5 (qf E (dT g)[k] (λx A=>by have:=hxm x A;omega) (by omega)) Z Z) (V (EH 30 R1 Z Z Z Z Z Z Z Z) (V (Ic (T) ([EF E (dT g)[k]]) Z Z Z Z Z Z Z Z R1 (by simp only [Φ];omega) Z Z Z Z) (AB Z Z (AD (AE (J (Aw Z Z (AQ (k+1) (by omega)) Z) (cl Z Z (AD ?_))))))));exact ⟨(k+1,T++ [EF E (dT g)[k]]),⟨l,by show _=((dT g).take (k+1)).map _;rw [φ l,du,X];rfl⟩,by show (dT g).length - (k+1)<(dT g).length - k;omega,A0 Y [11,10] Z (Z) ⟨Z,Z,Z,Z,Z,trivial⟩⟩
 .refine BL (AC ?_);have hke:k=(dT g).length:=by have:=w;omega
  refine L6 (emb:=Qp) 11 11 T Z Z Z Z Z Z Z ?_;rw [show T=fq (dX p) (dj p) by rw [X,hke,eo,<-t];unfold fq;rw [K.1,K.2.1]];refine AE (cl Z Z (AB Z Z (AB Z Z (AD (A6 ?_)))));exact ⟨_,[],[],A4 Z,Z,Z,Z,Z⟩
abbrev QB (p:dG):List D:=[.sl none (p.ro.map Cv),.sl none (p.it.map Ap)]
theorem oW {p:dG} {M:MF} {o g b:Nat} {l:List D} {e x:Int} {v:D} (j:M o=some (.cells 31 (QB p))) (i:M g=some (.cells 65 l)) (u:l.length=5) (h:M b=some (.cells 34 [AF e])) (k:b≠g) (s:v.one=true) (t:AM prog 11 [.d (CM p)] (.tup [v,AF x])):
  AK prog 48 [.d (pD o 0),.d (pD g 0),.d (pD b 0)] [(41,[.multi M])] λr w=>r= .tup []/\w=[(41,[.multi (BM (BM M g (.cells 65 (l.set 0 v))) b (.cells 34 [AF x]))])]:=by
 refine Av func48 Z Z ntmps48 Z Z Z λF y=>(AE ?_);refine J (Cj (f:=41) (n:=2) Z Z j Bc Z Z (λc a=>by rcases di.1 a with rfl | a;rfl;rcases di.1 a with rfl | a;rfl;cases a) Z) (J (B5 (t) Z Z) (cl Z Z (J (Ds Z Z Z) (J (Ds Z Z Z) (J (Bz Z fU Z Z Z) (V (OZ (f:=41) (off:=0) Z Z s Z i (by omega) Z Ca) (V (OZ (f:=41) (off:=0) Z Z Z Z (by rw [Gz k];exact h) (by simp) Z Yl) (AD ?_))))))));exact ⟨_,[41],_,A4 Z,Z,Z,Z,Z⟩
theorem oU {p:dG} {M:MF} {o g b:Nat} {l:List D} {e x:Int} {v:D} (j:M o=some (.cells 31 (QB p))) (i:M g=some (.cells 65 l)) (u:l.length=5) (h:M b=some (.cells 34 [AF e])) (k:b≠g) (s:v.one=true) (t:AM prog 14 [.d (CM p)] (.tup [v,AF x])):
  AK prog 49 [.d (pD o 0),.d (pD g 0),.d (pD b 0)] [(41,[.multi M])] λr w=>r= .tup []/\w=[(41,[.multi (BM (BM M g (.cells 65 (l.set 1 v))) b (.cells 34 [AF x]))])]:=by
 refine Av func49 Z Z ntmps49 Z Z Z λF y=>(AE ?_);refine J (Cj (f:=41) (n:=2) Z Z j Bc Z Z (λc a=>by rcases di.1 a with rfl | a;rfl;rcases di.1 a with rfl | a;rfl;cases a) Z) (J (B5 (t) Z Z) (cl Z Z (J (Ds Z Z Z) (J (Ds Z Z Z) (J (Bz Z gE Z Z Z) (V (OZ (f:=41) (off:=1) Z Z s Z i (by omega) Z Ca) (V (OZ (f:=41) (off:=0) Z Z Z Z (by rw [Gz k];exact h) (by simp) Z Yl) (AD ?_))))))));exact ⟨_,[41],_,A4 Z,Z,Z,Z,Z⟩
theorem oT {p:dG} {M:MF} {t i h:Nat} {g:List D} {e x:Int} {v:D} {s:D} (l:M t=some (.cells 31 (QB p))) (a:M i=some (.cells 65 g)) (y:g.length=5) (j:g[0]? =some s) (k:M h=some (.cells 34 [AF e])) (o:h≠i) (u:v.one=true) (w:AM prog 51 [.d (CM p),.d s] (.tup [v,AF x])):
  AK prog 50 [.d (pD t 0),.d (pD i 0),.d (pD h 0)] [(41,[.multi M])] λr z=>r= .tup []/\z=[(41,[.multi (BM (BM M i (.cells 65 (g.set 2 v))) h (.cells 34 [AF x]))])]:=by
 refine Av func50 Z Z ntmps50 Z Z Z λF A=>(AE (J (Cj (f:=41) (n:=2) Z Z l Bc Z Z (λc b=>by rcases di.1 b with rfl | b;rfl;rcases di.1 b with rfl | b;rfl;cases b) Z) (J (Bz Z fU Z Z Z) ?_)));refine J (EI (f:=41) Z Z a j BI Z) (J (B5 (w) Z Z) (cl Z Z (J (Ds Z Z Z) (J (Ds Z Z Z) (J (Bz Z bT Z Z Z) (V (OZ (f:=41) (off:=2) Z Z u Z a (by omega) Z pO) (V (OZ (f:=41) (off:=0) Z Z Z Z (by rw [Gz o];exact k) (by simp) Z Yl) (AD ?_))))))));exact ⟨_,[41],_,A4 Z,Z,Z,Z,Z⟩
theorem oS {p:dG} {M:MF} {o g b:Nat} {l:List D} {e x:Int} {v:D} (j:M o=some (.cells 31 (QB p))) (i:M g=some (.cells 65 l)) (u:l.length=5) (h:M b=some (.cells 34 [AF e])) (k:b≠g) (s:v.one=true) (t:AM prog 53 [.d (CM p)] (.tup [v,AF x])):
  AK prog 52 [.d (pD o 0),.d (pD g 0),.d (pD b 0)] [(41,[.multi M])] λr w=>r= .tup []/\w=[(41,[.multi (BM (BM M g (.cells 65 (l.set 3 v))) b (.cells 34 [AF x]))])]:=by
 refine Av func52 Z Z ntmps52 Z Z Z λF y=>(AE ?_);refine J (Cj (f:=41) (n:=2) Z Z j Bc Z Z (λc a=>by rcases di.1 a with rfl | a;rfl;rcases di.1 a with rfl | a;rfl;cases a) Z) (J (B5 (t) Z Z) (cl Z Z (J (Ds Z Z Z) (J (Ds Z Z Z) (J (Bz Z fT Z Z Z) (V (OZ (f:=41) (off:=3) Z Z s Z i (by omega) Z pO) (V (OZ (f:=41) (off:=0) Z Z Z Z (by rw [Gz k];exact h) (by simp) Z Yl) (AD ?_))))))));exact ⟨_,[41],_,A4 Z,Z,Z,Z,Z⟩
theorem oR {p:dG} {M:MF} {o g b:Nat} {l:List D} {e x:Int} {v:D} (j:M o=some (.cells 31 (QB p))) (i:M g=some (.cells 65 l)) (u:l.length=5) (h:M b=some (.cells 34 [AF e])) (k:b≠g) (s:v.one=true) (t:AM prog 55 [.d (CM p)] (.tup [v,AF x])):
  AK prog 54 [.d (pD o 0),.d (pD g 0),.d (pD b 0)] [(41,[.multi M])] λr w=>r= .tup []/\w=[(41,[.multi (BM (BM M g (.cells 65 (l.set 4 v))) b (.cells 34 [AF x]))])]:=by
 refine Av func54 Z Z ntmps54 Z Z Z λF y=>(AE ?_);refine J (Cj (f:=41) (n:=2) Z Z j Bc Z Z (λc a=>by rcases di.1 a with rfl | a;rfl;rcases di.1 a with rfl | a;rfl;cases a) Z) (J (B5 (t) Z Z) (cl Z Z (J (Ds Z Z Z) (J (Ds Z Z Z) (J (Bz Z fB Z Z Z) (V (OZ (f:=41) (off:=4) Z Z s Z i (by omega) Z rT) (V (OZ (f:=41) (off:=0) Z Z Z Z (by rw [Gz k];exact h) (by simp) Z Yl) (AD ?_))))))));exact ⟨_,[41],_,A4 Z,Z,Z,Z,Z⟩
abbrev L4:D:= .sl (some true) []
def rK:List FuncId:=[48,49,50,52,54]
def sj (b1 b4 b5:Nat) (g:FuncId):D:= .fn g [] [pD b1 0,pD b4 0,pD b5 0]
noncomputable def fl (p:dG):List D:=[Qp (dE p),Qp (CJ p),X3 (eC (dX p) (Sf p (dE p))),X3 (fq (dX p) (dj p)),.sl none ((ft p).map om)]
noncomputable def gB (p:dG) (k:Nat):List D:=(fl p).take k++List.replicate (5 - k) L4
theorem sN (i:E9 c) (h:Ai c=0) (t:k<rK.length) (f:M z=some (.cells 31 (QB c))) (b:M y=some (.cells 65 (gB c k))) (a:M w=some (.cells 34 [AF 0])) (g:w≠y):
  AK prog rK[k] [.d (pD z 0),.d (pD y 0),.d (pD w 0)] [(41,[.multi M])] λr u=>r= .tup []/\u=[(41,[.multi (BM (BM M y (.cells 65 (gB c (k+1)))) w (.cells 34 [AF 0]))])]:=by
 have l:∀x∈dE c,x∈c.it.map AG.id:=λx o=>Ke h o;have j:=F4 h;have s:=Kd h;have v:=i.i
 match k,t with
 | 0,_=>exact oW f b Z a g Z (G9 c i h)
 | 1,_=>exact oU f b Z a g Z (SX c i h)
 | 2,_=>exact oT f b Z Z a g Z (oJ c (dE c) i (by omega) (Qe h j l) h j)
 | 3,_=>exact oS f b Z a g Z (YC c i h)
 | 4,_=>exact oR f b Z a g Z (YH c i h)
theorem Nk (p:dG) (I:E9 p) (N:Ai p=0):AM prog 19 [.d (CM p)] (.tup [.agg (fl p),AF 0]):=by
 refine Av func19 Z Z ntmps19 Z Z Z λF y=>(AC (AE ?_));refine V (CQ 1 Z Z Z Z Z Z Z) (V (CE 2 iC Z Z Z Z) (AB Z Z (AD (AC (AE (V (CE 4 iC Z Z Z Z) (AD (AC ?_))))))));refine AE (V (CE 5 rP Z Z Z Z) (AD (AC (AC (IS 41 Z Z Z (DR (ds:=QB p) 1 1 41 y Z Z Z Z Z Z Z Z Z Z Z (λ_=>rfl) λg L=>(DR (ds:=[L4,L4,L4,L4,L4]) 4 4 41 y Z Z Z Z Z Z Z Z Z Z Z (λ_=>rfl) λb w=>(DR (ds:=[AF 0]) 5 5 41 y Z Z Z Z Z Z Z Z Z Z Z (λ_=>rfl) λa h=>?_))))))));have o:b≠g:=λe=>by rw [e,GM] at w;cases w
 have l:a≠b:=λe=>by rw [e,GM] at h;cases h
 have z:a≠g:=λe=>by rw [e,Gz (Ne.symm o),GM] at h;cases h
 refine AE (J (YZ (ds:=[]) (es:=[pD g 0,pD b 0,pD a 0]) Z Z Z Z Z) (J (YZ (ds:=[]) (es:=[pD g 0,pD b 0,pD a 0]) Z Z Z Z Z) ?_));refine J (YZ (ds:=[]) (es:=[pD g 0,pD b 0,pD a 0]) Z Z Z Z Z) (J (YZ (ds:=[]) (es:=[pD g 0,pD b 0,pD a 0]) Z Z Z Z Z) (J (YZ (ds:=[]) (es:=[pD g 0,pD b 0,pD a 0]) Z Z Z Z Z) (V (EH 20 pZ Z Z Z Z Z Z Z Z) (J (Qs Z underlying131 Z) (cl Z Z (AD (A2 (Bb (α:=Nat×MF) (λq=>⟨27,[(2,(.ptr 2 0 0)),(4,(.d (pD b 0))),(5,(.d (pD a 0))),(13,(.own 20 0 5)),(14,(.d (AF 5))),(15,(.d (AF (q.1:Int))))],[(20,[.rowD 1 1 (rK.map (sj g b a))]),(2,[.blk 65 [.d L4,.d L4,.d L4,.d L4,.d L4]]),(41,[.multi q.2])]⟩) (λq=>q.1<=5/\q.2 g=some (.cells 31 (QB p))/\q.2 b=some (.cells 65 (gB p q.1))/\q.2 a=some (.cells 34 [AF 0])) (λq=>5 - q.1) ((0,_)) (⟨ϱ _,by show BM _ _ _ _=_;rw [Gz (Ne.symm z),Gz (Ne.symm o)];exact GM _ _ _,by show BM _ _ _ _=_;rw [Gz (Ne.symm l)];exact GM _ _ _,GM _ _ _⟩) (A0 y [20,2,41] Z Z ⟨Z,Z,Z,Z,Z,Z,trivial⟩) ?_))))))));rintro ⟨k,M⟩ ⟨H,j,i,v⟩;dsimp only at H j i v⊢;refine AC (AE (J (BW Z Z Z) (AD (AC (Ah Z (λs=>?_) (λs=>?_))))))
 .refine AZ (AC (A2 (AC ?_)));have t:k<5:=Bi s;have u:k<rK.length:=t;have C:BM (BM M b (.cells 65 (gB p (k+1)))) a (.cells 34 [AF 0]) g=some (.cells 31 (QB p)):=by rw [Gz (Ne.symm z),Gz (Ne.symm o)];exact j
  have B:BM (BM M b (.cells 65 (gB p (k+1)))) a (.cells 34 [AF 0]) b=some (.cells 65 (gB p (k+1))):=by rw [Gz (Ne.symm l)];exact GM _ _ _
  have x:BM (BM M b (.cells 65 (gB p (k+1)))) a (.cells 34 [AF 0]) a=some (.cells 34 [AF 0]):=GM _ _ _;refine AE (J (C7 (k) Z Z (Z) (t) Z underlying131 s9 Z) (J (DX Z Z (Aq u) Z sc Z) (AB Z Z (AD (AC (AE (cl Z Z ?_)))))));refine CZ (Wn (sN I N u j i v l) Z [41] ⟨Z,trivial⟩ Z Z Z Z (λr O ⟨G,E⟩=>by subst G E;exact ⟨Z,Z,Z⟩) Z) Z ?_;rintro _ ⟨r,O,⟨G,E⟩,rfl⟩;subst G E;refine AD (AC (AE ?_));refine J (EI (f:=41) Z Z x Z sA Z) (J (EO Z Z Z) (AD (EV Z (dw (by decide)) (AZ (AE (J (Aw Z Z (AQ (k+1) (by omega)) Z) (cl Z Z (AD ?_))))))));exact ⟨(k+1,_),⟨by show k+1<=5;omega,C,B,x⟩,by show 5 - (k+1)<5 - k;omega,A0 y [20,2,41] Z (Z) ⟨Z,Z,Z,Z,Z,Z,trivial⟩⟩
 .refine BL (AC ?_);have A:k=5:=by have:=s;omega
  subst A;refine AE (J (Cj (f:=41) (n:=5) Z Z i rf Z Z (λc K=>by have D:c∈fl p:=K;unfold fl at D;simp only [di,List.not_mem_nil,or_false] at D;rcases D with rfl | rfl | rfl | rfl | rfl<;>rfl) Z) (V (Bk Z Z Z Z Z Z Z mX) (AB Z Z (AD (A6 ?_)))));exact ⟨_,[],_,A4 Z,Z,Z,Z,Z⟩
theorem N8 {C:Nat ->Nat ->Prop} (c:0<h) (a:∀i j,i<h ->j<h ->C i j):gR h C=[List.range h]:=by
 unfold gR
 have r:((List.range h).filter λk=>dec (∀j,j<k ->¬C k j))=[0]:=by
  obtain ⟨m,rfl⟩:∃m,h=m+1:=⟨h - 1,by omega⟩
  rw [List.range_succ_eq_map,fY,ϖ (bu λj b=>absurd b (Nat.not_lt_zero j)),List.filter_map]
  have o:(List.range m).filter ((λk=>dec (∀j,j<k ->¬C k j))∘Nat.succ)=[]:=List.filter_eq_nil_iff.2 λk g=>by
   have f:=Γ.1 g;show ¬dec (∀j,j<k+1 ->¬C (k+1) j)=true;rw [Gp];exact λl=>l 0 (Nat.succ_pos k) (a _ _ (by omega) (by omega))
  rw [o];rfl
 rw [r,List.map_singleton,iB.2 λj b=>bu (a 0 j c (Γ.1 b))]
theorem TG (g:List (List Nat)):dT g=eR (gR g.length (J3 g)):=rfl
theorem WA:o∈cx (fF t E) i↔i<E.length/\o<E.length/\YS t (Cx E i) (Cx E o):=by grind [fF,fe,DP,cx]
theorem Ra {g:Nat ->List Nat} {nx:Nat ->Nat} (c:∀i,i<h ->nx i∈g i) {P:Nat ->Nat} (x:∀i,i<h ->P i<h) (r:∀m,m<h ->nx (P m)=P ((m+1) % h)) (f:∀i,i<h ->∃m,m<h/\P m=i):∀i j,i<h ->j<h ->Rh g i j:=by
 have step:∀d m,m<h ->Rh g (P m) (P ((m+d) % h)):=λd m s=>by
  induction d with
  | zero=>rw [fG,Nat.mod_eq_of_lt s];exact .refl _
  | succ d o=>
   have k:=fj (m+d) (by omega:h>0);have l:=c _ (x _ k);rw [r _ k,Nat.mod_add_mod] at l;exact .step o l
 intro i j u t;obtain ⟨a,w,rfl⟩:=f i u;obtain ⟨b,v,rfl⟩:=f j t;have:=step (b+h - a) a w
 rwa [show a+(b+h - a)=b+h by omega,Nat.add_mod_right,Nat.mod_eq_of_lt v] at this
def bD:List AG:=[OF 1 [65] [66] 5,OF 2 [66] [67] 5,OF 3 [67] [65] 5,OF 4 [65] [68] 4]
def kK:dG:=⟨Px,bD⟩
theorem U3:Ai kK=0:=by decide
theorem sD:E9 kK:=⟨by decide,by decide,by decide⟩
theorem q8:Bu kK=Px:=(ZZ U3 (List.Perm.refl _) (by decide)).symm
theorem az:dC kK=bD:=by decide
theorem j8:dE kK=[1,2,3]:=by
 unfold dE Ia;rw [q8,az];exact fb (by kernel_rfl)
theorem q9:CJ kK=[]:=by
 unfold CJ;rw [q8,az];exact fb (by kernel_rfl)
def eK:List (AG×Nat):=[(OF 1 [65] [66] 5,0),(OF 2 [66] [67] 5,0),(OF 3 [67] [65] 5,0)]
theorem q7:Sf kK [1,2,3]=eK:=by
 unfold Sf;rw [<-show dC kK=dA kK.it from ϖ U3,az]
 rfl
theorem q6:dj kK=eK:=by
 unfold dj;rw [<-show dC kK=dA kK.it from ϖ U3,az,j8,q9]
 rfl
theorem q5:∀r∈dX kK,Bj r=0:=by decide
theorem nP (b:i<3) (a:o<3) (h:decide (∃r∈dX kK,BU (Cx eK i) r<0/\0<BU (Cx eK o) r)=true):YS (dX kK) (Cx eK i) (Cx eK o):=by grind [Y5,q5,BU]
theorem mK {a b:AG} (h:YS t a b):Nt t a b:=by grind [IF,YS,Nt]
def rH:Nat ->Nat
 | 0=>2
 | 1=>0
 | _=>1
theorem Vu (i:Nat) (a:i<3):rH i<3/\YS (dX kK) (Cx eK i) (Cx eK (rH i)):=by
 match i,a with
 | 0,_=>exact ⟨by decide,nP (by decide) (by decide) (by decide)⟩
 | 1,_=>exact ⟨by decide,nP (by decide) (by decide) (by decide)⟩
 | 2,_=>exact ⟨by decide,nP (by decide) (by decide) (by decide)⟩
def oK:Nat ->Nat
 | 0=>0
 | 1=>2
 | _=>1
theorem nT:fq (dX kK) eK=[[1,2,3]]:=by
 have h:∀i j,i<3 ->j<3 ->Rh (cx (fF (dX kK) eK)) i j:=Ra (nx:=rH) (P:=oK) (λi a=>WA.2 ⟨a,(Vu i a).1,(Vu i a).2⟩) (by decide) (by decide) (by decide);unfold fq;rw [TG,F7,show eK.length=3 from rfl,N8 (by decide) λi j a b=>⟨h i j a b,h j i b a⟩]
 decide
theorem nR:eC (dX kK) eK=[[1,2,3]]:=by
 have h:∀i j,i<3 ->j<3 ->Rh (nG (dX kK) eK) i j:=Ra (nx:=rH) (P:=oK) (λi a=>Dp.2 ⟨a,(Vu i a).1,mK (Vu i a).2⟩) (by decide) (by decide) (by decide);unfold eC;rw [show eK.length=3 from rfl,N8 (C:=Cn (dX kK) eK) (by decide) h]
 decide
theorem ay:cy kK=Px.map (HR kK):=(Vr U3 (List.Perm.refl _) (by decide)).symm
theorem ax (i:Int) (h:(dF kK i).af=[]):Nv kK i=(Px.map (HR kK)).flatMap (E1 i):=by grind [Nv,ay,XF,Wr]
theorem nS:eD kK [4]=[1,4]:=by
 have a:Nv kK 4=[⟨4,1,io 65⟩]:=by rw [ax 4 (by decide)];exact fb (by kernel_rfl)
 have g:Nv kK 1=[]:=by rw [ax 1 (by decide)];exact fb (by kernel_rfl)
 rw [<-WO (C:=[4,1]) U3 (by decide) (by decide) λx=>?_]
 .exact (R0 (List.Perm.swap _ _ _) (by decide)).symm
 .constructor
  .intro h;rcases di.1 h with rfl | h
   .exact .base (by decide)
   .rw [ξ.1 h];exact cm.step (b:=⟨4,1,io 65⟩) (i:=4) (.base (by decide)) (by rw [a];exact ξ.2 Z)
  .intro h
   induction h with
   | base h=>rw [ξ.1 h];decide
   | step _ f c=>
    grind
theorem sC:eG kK 4=[⟨io 65,9⟩]:=by
 unfold eG Y6;rw [nS,ay];exact fb (by kernel_rfl)
theorem nU:ft kK=[(4,⟨io 65,9⟩)]:=by
 unfold ft;rw [<-show dC kK=dA kK.it from ϖ U3,az];have b:∀id∈([1,2,3]:List Int),eY kK id=none:=λid h=>Nc (by rw [j8];exact h)
 have a:eY kK 4=some (4,⟨io 65,9⟩):=by
  unfold eY;rw [j8,sC,η (by decide)];rfl
 show ([1,2,3,4]:List Int).filterMap (eY kK)=_
 simp_all
theorem nQ:fl kK=[Qp [1,2,3],Qp [],X3 [[1,2,3]],X3 [[1,2,3]],.sl none (([(4,⟨io 65,9⟩)]:List (Int×cw)).map om)]:=by
 unfold fl;rw [j8,q9,q7,q6,nR,nT,nU]
theorem SQ (l m:List Int) (u:l.length<=100000) (t:m.length<=100000):AM prog 144 [.d (.sl none (l.map AF)),.d (.sl none (m.map AF))] (Ac (decide (l=m))):=by
 refine Av func144 Z Z ntmps144 Z Z Z λF r=>(AC (AE (AB Z Z (AD (AC ?_)))));refine AC (AE (cl Z Z (J (CV Z E0 Z) (cl Z Z (J (CV Z E0 Z) (J (EO Z Z Z) (AD (Ah Z (λc=>?_) (λc=>?_)))))))))
 .refine AC (AE (AB Z Z (AD (A6 ?_))));exact ⟨_,[],[],A4 Z,Z,Z,XE (λh=>by have i:=dc List.length h;have h:=c;omega),Z⟩
 .refine AZ (AC (AC ?_));have j:l.length=m.length:=by have h:=c;omega
  refine AE (AB Z Z (AD (A2 (Bb (α:=Nat) (λk=>⟨26,[(0,.d (.sl none (l.map AF))),(1,.d (.sl none (m.map AF))),(5,(.d (AF (k:Int))))],[]⟩) (λk=>k<=l.length/\l.take k=m.take k) (λk=>l.length - k) (0) (⟨ϱ _,by simp⟩) (A0 r [] Z Z ⟨Z,Z,Z,trivial⟩) ?_))));rintro k ⟨s,o⟩;refine AC (AC (AE (cl Z Z (cl Z Z (J (CV Z E0 Z) (J (BW Z Z Z) (AD (Ah Z (λa=>?_) (λa=>?_)))))))))
  .have g:k<l.length:=Bi a;refine AZ (AC (A2 (AC ?_)));have f:k<m.length:=by omega
   refine Dr [[],[],[0,1],[0,1,2],[],[],[4,5],[4,5,6],rg 8] mixed Z (E6 (At 0 Z Z (At 5 Z Z (AX [17,18] Z (Bq (k) Z Z (Z) (Aq g) E0 Z B4 Z) ?_))));refine AX [19] Z (EJ Z Z BE Z) (At 1 Z Z (At 5 Z Z (AX [21,22] Z (Bq (k) Z Z (Z) (Aq f) E0 Z B4 Z) (AX [23] Z (EJ Z Z BE Z) (Dh 8 Z Z Z (An 9 Z Z (J (EO Z Z Z) (AD ⟨Z,?_⟩))))))));refine Dg (Ah Z (λb=>?_) (λb=>?_))
   .refine AC (AE (AB Z Z (AD (A6 ?_))));exact ⟨_,[],[],A4 Z,Z,Z,XE (λh=>by subst h;exact b Z),Z⟩
   .refine AZ (AE (cl Z Z (J (Aw Z Z (AQ (k+1) (by omega)) Z) (AB Z Z (AD ?_)))));exact ⟨k+1,⟨by show k+1<=_;omega,by rw [φ g,φ f,o,Classical.not_not.1 b]⟩,by show l.length - (k+1)<l.length - k;omega,A0 r [] Z (Z) ⟨Z,Z,Z,trivial⟩⟩
  .refine BL (AC (AE (AB Z Z (AD (A6 ?_)))));exact ⟨_,[],[],A4 Z,Z,Z,pj (by have i:=o;rw [ς (by have h:=a;omega),ς (by have h:=a;omega)] at i;exact i),Z⟩
theorem PN (l m:List (List Int)) (w:l.length<=100000) (v:m.length<=100000) (j:∀x∈l,x.length<=100000) (i:∀x∈m,x.length<=100000):AM prog 145 [.d (X3 l),.d (X3 m)] (Ac (decide (l=m))):=by
 refine Av func145 Z Z ntmps145 Z Z Z λF t=>(AC (AE (AB Z Z (AD (AC ?_)))));refine AC (AE (cl Z Z (J (CV Z Ri Z) (cl Z Z (J (CV Z Ri Z) (J (EO Z Z Z) (AD (Ah Z (λg=>?_) (λg=>?_)))))))))
 .refine AC (AE (AB Z Z (AD (A6 ?_))));exact ⟨_,[],[],A4 Z,Z,Z,XE (λh=>by have o:=dc List.length h;have h:=g;omega),Z⟩
 .refine AZ (AC (AC ?_));have r:l.length=m.length:=by have h:=g;omega
  refine AE (AB Z Z (AD (A2 (Bb (α:=Nat) (λk=>⟨27,[(0,.d (X3 l)),(1,.d (X3 m)),(5,(.d (AF (k:Int))))],[]⟩) (λk=>k<=l.length/\l.take k=m.take k) (λk=>l.length - k) (0) (⟨ϱ _,by simp⟩) (A0 t [] Z Z ⟨Z,Z,Z,trivial⟩) ?_))));rintro k ⟨u,s⟩;refine AC (AC (AE (cl Z Z (cl Z Z (J (CV Z Ri Z) (J (BW Z Z Z) (AD (Ah Z (λa=>?_) (λa=>?_)))))))))
  .have c:k<l.length:=Bi a;refine AZ (AC (A2 (AC ?_)));have b:k<m.length:=by omega
   refine Dr [[],[],[0,1],[0,1,2],[],[],[4,5],[4,5,6],rg 8,rg 9] mixed Z (E6 (At 0 Z Z (At 5 Z Z (AX [17,18] Z (Bq (k) Z Z (Z) (Aq c) Ri Z Ca Z) ?_))));refine AX [19] Z (EJ Z Z BI Z) (At 1 Z Z (At 5 Z Z (AX [21,22] Z (Bq (k) Z Z (Z) (Aq b) Ri Z Ca Z) (AX [23] Z (EJ Z Z BI Z) (Dh 8 Z Z Z (An 9 Z Z (J (B5 (SQ l[k] m[k] (j _ (θ c)) (i _ (θ b))) Z Z) (AD ⟨Z,?_⟩))))))));refine An 10 Z Z (J (O2 Z Z) (AD ⟨Z,?_⟩));refine Dg (Ah Z (λf=>?_) (λf=>?_))
   .refine AC (AE (AB Z Z (AD (A6 ?_))));exact ⟨_,[],[],A4 Z,Z,Z,XE (λh=>by subst h;exact f Z),Z⟩
   .refine AZ (AE (cl Z Z (J (Aw Z Z (AQ (k+1) (by omega)) Z) (AB Z Z (AD ?_)))));exact ⟨k+1,⟨by show k+1<=_;omega,by rw [φ c,φ b,s,Classical.not_not.1 f]⟩,by show l.length - (k+1)<l.length - k;omega,A0 t [] Z (Z) ⟨Z,Z,Z,trivial⟩⟩
  .refine BL (AC (AE (AB Z Z (AD (A6 ?_)))));exact ⟨_,[],[],A4 Z,Z,Z,pj (by have o:=s;rw [ς (by have h:=a;omega),ς (by have h:=a;omega)] at o;exact o),Z⟩
theorem Zr (id n:Int) (a b:List UInt8) (g:0<=n) (f:n<=1000000000000000):AM prog 143 [.d (AF id),.d (Ae a),.d (Ae b),.d (AF n)] (.agg [AF id,AF 0,AF id,.sl none ((OF id a b n).po.map Ck),.sl (some true) [],.sl (some true) []]):=by
 refine Av func143 Z Z ntmps143 Z Z Z λF c=>(AC (AE (V (CE 1 Fc Z Z Z Z) (AD (AC ?_)))));refine AE (cl Z Z (cl Z Z (cl Z Z (J (FU Te XK Z Z Z) (cl Z Z (J (Tr Z (Ξ _ (by omega)) Z) (J (FU ME V2 Z Z Z) (cl Z Z ?_))))))));refine J (FU Te XK Z Z Z) (cl Z Z (J (FU ME V2 Z Z Z) (V (EH 4 i7 Z Z Z Z Z Z Z Z) (hJ (emb:=Ck) 20 4 (OF id a b n).po Z Z Z Z Z Z Z (J (FU Fc mq Z Z Z) (V (Bk Z Z Z Z Z Z Z Cu) (AD (A6 ?_))))))));exact ⟨_,[],[],A4 Z,Z,Z,Z,Z⟩
theorem Ld (id n:Int) (a b:List UInt8) (l:0<=n) (k:n<=1000000000000000):AM prog 143 [.d (AF id),.d (Ae a),.d (Ae b),.d (AF n)] (Ap (OF id a b n)):=
 (Zr id n a b l k).weak λw O v h=>h.aggMono Z (by simp [D.one]) λi c o g f v j=>by
  match i,g,f with
  | 0,g,f=>injection g with g;injection f with f;subst g f;exact j
  | 1,g,f=>injection g with g;injection f with f;subst g f;exact j
  | 2,g,f=>injection g with g;injection f with f;subst g f;exact j
  | 3,g,f=>injection g with g;injection f with f;subst g f;exact j
  | 4,g,f=>injection g with g;injection f with f;subst g f;exact j.anyNil
  | 5,g,f=>injection g with g;injection f with f;subst g f;exact j.anyNil
theorem Xa:AM prog 96 [] (.raw (.bool true)):=by
 have j:=Nk kK sD U3;rw [nQ] at j;refine Av func96 Z Z ntmps96 Z Z Z λF s=>(AC ?_);refine AE (AB Z Z (AD (AC (AE (V (CE 1 iD Z Z Z Z) (AD (AC (AC ?_))))))));refine AE (V (EH 2 lS Z Z Z Z Z Z Z Z) (hJ (emb:=Ae) 7 2 qS Z Z Z Z Z Z Z (J (CV Z underlying122 Z) (cl Z Z (AD (A2 (GL 1 0 0 901 Ps Z Z Z Z Z Z Z (Bb (α:=Nat×List cw) (λq=>⟨86,[(1,(.ptr 1 0 0)),(7,(.d (.sl none (qS.map Ae)))),(8,(.d (AF 3))),(9,(.d (AF (q.1:Int))))],[(901,[.rowD 74 7 (q.2.map Cv)]),(1,[.blk 31 [.own 901 0 q.2.length,.d L4]])]⟩) (λq=>q.1<=3/\q.2=Px.take q.1) (λq=>3 - q.1) ((0,[])) (⟨by decide,Z⟩) (A0 s [901,1] Z Z ⟨Z,Z,Z,Z,trivial⟩) ?_))))))));rintro ⟨k,l⟩ ⟨r,a⟩;dsimp only at r a⊢;refine AC (AE (J (BW Z Z Z) (AD (AC (Ah Z (λc=>?_) (λc=>?_))))))
 .have i:k<qS.length:=by have h:=Bi (b:=3) c;exact h
  refine AZ (AC (A2 (AC ?_)));have g:l++ [⟨⟨0,Ct qS[k],[],[]⟩,0⟩]=Px.take (k+1):=by subst a;match k,i with | 0,_=>rfl | 1,_=>rfl | 2,_=>rfl
  have t:l.length<=3:=by rw [a];simp [Px];omega
  refine AE (J (Bq (k) Z Z (Z) (Aq i) underlying122 Z rG Z) (J (EJ Z Z H1 Z) ?_));refine AB Z Z (AD (AE (J (A1 Z Fj Z Z Z) (J (A5 Z Z Z Ro Z) (cl Z Z (J (FU Te XK Z Z Z) (J (FU LY Rf Z Z Z) (J (FU Qv mp Z Z Z) ?_))))))));refine V (EH 50 Ps Z Z Z Z Z Z Z Z) (V (Ic (l) ([⟨⟨0,Ct qS[k],[],[]⟩,0⟩]) Z Z Z Z Z Z Z Z Ps (by simp only [Φ];omega) Z Z Z Z) (J (A1 Z Fj Z Z Z) (V (Bk Z Z Z Z Z Z Z pR) (AD (AE (J (Aw Z Z (AQ (k+1) (by omega)) Z) (cl Z Z (AD ?_))))))));exact ⟨(k+1,_),⟨by show k+1<=3;omega,g⟩,by show 3 - (k+1)<3 - k;omega,A0 s [901,1] Z (Z) ⟨Z,Z,Z,Z,trivial⟩⟩
 .refine BL (AC ?_);have o:k=3:=by have h:=c;omega
  subst o;have f:l=Px:=a;subst f;refine IT (ys:=Px.map Cv) 1 0 0 901 Z Z Z (by decide) Z Z Z Z Z Z Z (AE (J (B5 (Ld 1 5 [65] [66] (by decide) (by decide)) Z Z) (J (B5 (Ld 2 5 [66] [67] (by decide) (by decide)) Z Z) (J (B5 (Ld 3 5 [67] [65] (by decide) (by decide)) Z Z) (J (B5 (Ld 4 4 [65] [68] (by decide) (by decide)) Z Z) (V (EH 52 OB Z Z Z Z Z Z Z Z) (hJ (emb:=Ap) 27 52 bD Z Z Z Z Z Z Z ?_)))))));refine J (A1 Z EM Z Z Z) (V (Bk Z Z Z Z Z Z Z mY) (AD (AC (AE (J (B1 Z Z Bc Z Z Z) (J (B5 (j) Z Z) (cl Z Z (J (Ds Z Z Z) ?_))))))));refine J (Ds Z Z Z) (V (CE 4 iC Z Z Z Z) (V (Bk Z Z Z Z Z Z Z mX) (AB Z Z (AD (AC (AE (V (EH 54 BX Z Z Z Z Z Z Z Z) (hJ (emb:=AF) 34 54 [1,2,3] Z Z Z Z Z Z Z ?_))))))));refine V (EH 55 R1 Z Z Z Z Z Z Z Z) (hJ (emb:=Qp) 35 55 [[1,2,3]] Z Z Z Z Z Z Z (AB Z Z (AD (AC (Dr [[],[0],[0,1],[0,1,2],[0,1,2,3],[0,1,2],[0,1,2,5],[0,1,2,5,6],rg 8,rg 9,rg 10,rg 11,rg 12,rg 13,rg 14,rg 15,rg 16,rg 17,rg 18,rg 17,rg 20,rg 21,rg 22,rg 23,rg 24,rg 23,rg 26,rg 27,rg 28,rg 29,rg 30,rg 31,rg 32,rg 33,rg 34,rg 35,rg 36,rg 37,rg 38,rg 39,rg 40,rg 41,rg 42,rg 43,rg 44,rg 45,rg 46,rg 47,rg 48,rg 49,rg 50] mixed Z (An 1 Z Z (cl Z Z (AD ⟨Z,?_⟩))))))));refine An 2 Z Z (J (MB Z Z Z) (AD ⟨Z,?_⟩));refine An 3 Z Z (cl Z Z (G6 38 Z (Z) (AD ⟨Z,?_⟩)));refine E6 (By [4,38] [] Z Z (λ_=>FB Z Z Z (A1 Z fU Z Z Z)) ?_);refine BQ [39,38] Z Z (λ_=>FB Z Z Z (A5 Z Z Z BI Z)) (By [6,38] [] Z Z (λ_=>FB Z Z Z (JJ Z Z)) (By [41,38] [] Z Z (λ_=>FB Z Z Z (Bq (0) Z Z (Z) (Z) Ri Z Ca Z)) (By [42,38] [] Z Z (λ_=>FB Z Z Z (EJ Z Z BI Z)) (Dh 8 Z Z Z (An 9 Z Z (Aa Z Z Z (J (B5 (SQ [1,2,3] [1,2,3] (by decide) (by decide)) Z Z) (AD ⟨Z,?_⟩))))))));refine An 10 Z Z (J (FL Z Z Z Z) (AD ⟨Z,?_⟩));refine An 11 Z Z (cl Z Z (G6 46 Z (Z) (AD ⟨Z,?_⟩)));refine An 12 Z Z (Aa Z Z Z (J (A1 Z gE Z Z Z) (AD ⟨Z,?_⟩)));refine An 13 Z Z (Aa Z Z Z (J (A5 Z Z Z BI Z) (AD ⟨Z,?_⟩)));refine An 14 Z Z (Aa Z Z Z (J (CV Z E0 Z) (AD ⟨Z,?_⟩)));refine An 15 Z Z (Aa Z Z Z (J (MB Z Z Z) (AD ⟨Z,?_⟩)));refine An 16 Z Z (J (FL Z Z Z Z) (AD ⟨Z,?_⟩));refine An 17 Z Z (cl Z Z (G6 52 Z (Z) (AD ⟨Z,?_⟩)));refine E6 (By [4,52] [] Z Z (λ_=>FB Z Z Z (A1 Z bT Z Z Z)) (BQ [53,52] Z Z (λ_=>FB Z Z Z (A5 Z Z Z jJ Z)) (By [6,52] [] Z Z (λ_=>FB Z Z Z (JJ Z Z)) (Dh 20 Z Z Z (An 21 Z Z (Aa Z Z Z (J (B5 (PN [[1,2,3]] [[1,2,3]] (by decide) (by decide) (by decide) (by decide)) Z Z) (AD ⟨Z,?_⟩))))))));refine An 22 Z Z (J (FL Z Z Z Z) (AD ⟨Z,?_⟩));refine An 23 Z Z (cl Z Z (G6 58 Z (Z) (AD ⟨Z,?_⟩)));refine E6 (By [4,58] [] Z Z (λ_=>FB Z Z Z (A1 Z fT Z Z Z)) (BQ [59,58] Z Z (λ_=>FB Z Z Z (A5 Z Z Z jJ Z)) (By [6,58] [] Z Z (λ_=>FB Z Z Z (JJ Z Z)) (Dh 26 Z Z Z (An 27 Z Z (Aa Z Z Z (J (B5 (PN [[1,2,3]] [[1,2,3]] (by decide) (by decide) (by decide) (by decide)) Z Z) (AD ⟨Z,?_⟩))))))));refine An 28 Z Z (J (FL Z Z Z Z) (AD ⟨Z,?_⟩));refine An 29 Z Z (cl Z Z (G6 64 Z (Z) (AD ⟨Z,?_⟩)));refine An 30 Z Z (Aa Z Z Z (J (A1 Z fB Z Z Z) (AD ⟨Z,?_⟩)));refine An 31 Z Z (Aa Z Z Z (J (A5 Z Z Z jI Z) (AD ⟨Z,?_⟩)));refine An 32 Z Z (Aa Z Z Z (J (CV Z underlying63 Z) (AD ⟨Z,?_⟩)));refine An 33 Z Z (Aa Z Z Z (J (MB Z Z Z) (AD ⟨Z,?_⟩)));refine An 34 Z Z (J (FL Z Z Z Z) (AD ⟨Z,?_⟩));refine An 35 Z Z (cl Z Z (G6 70 Z (Z) (AD ⟨Z,?_⟩)));refine An 36 Z Z (Aa Z Z Z (J (A1 Z fB Z Z Z) (AD ⟨Z,?_⟩)));refine An 37 Z Z (Aa Z Z Z (J (A5 Z Z Z jI Z) (AD ⟨Z,?_⟩)));refine An 38 Z Z (Aa Z Z Z (J (Bq (0) Z Z (Z) (Z) underlying63 Z lL Z) (AD ⟨Z,?_⟩)));refine An 39 Z Z (Aa Z Z Z (J (GW Z jp Z Z Z) (AD ⟨Z,?_⟩)));refine An 40 Z Z (Aa Z Z Z (J (EJ Z Z BE Z) (AD ⟨Z,?_⟩)));refine An 41 Z Z (Aa Z Z Z (J (MB Z Z Z) (AD ⟨Z,?_⟩)));refine An 42 Z Z (J (FL Z Z Z Z) (AD ⟨Z,?_⟩));refine An 43 Z Z (cl Z Z (G6 78 Z (Z) (AD ⟨Z,?_⟩)));refine An 44 Z Z (Aa Z Z Z (J (A1 Z fB Z Z Z) (AD ⟨Z,?_⟩)));refine An 45 Z Z (Aa Z Z Z (J (A5 Z Z Z jI Z) (AD ⟨Z,?_⟩)));refine An 46 Z Z (Aa Z Z Z (J (Bq (0) Z Z (Z) (Z) underlying63 Z lL Z) (AD ⟨Z,?_⟩)));refine An 47 Z Z (Aa Z Z Z (J (GW Z jo Z Z Z) (AD ⟨Z,?_⟩)));refine An 48 Z Z (Aa Z Z Z (J (EJ Z Z L3 Z) (AD ⟨Z,?_⟩)));refine An 49 Z Z (Aa Z Z Z (J (MB Z Z Z) (AD ⟨Z,?_⟩)));refine An 50 Z Z (J (FL Z Z Z Z) (AD ⟨Z,?_⟩));refine An 51 Z Z (AB Z Z (AD ⟨Z,?_⟩));refine Dg (A6 ?_);exact ⟨_,[],[],A4 Z,Z,Z,Z,Z⟩
def PE (i:Nat):List UInt8:=[UInt8.ofNat (65+i)]
def JD (i:Nat):AO:=⟨0,Ct (PE i),[],[]⟩
def Wo (s:List UInt8) (i:Nat):Int:=(i:Int)+1+100*(((s.getD i 0).toNat % 50:Nat):Int)
def Kf (k:Nat) (a:Int) (s:List UInt8) (i:Nat):AG:=⟨i,0,Wo s i,[⟨Ct (PE i),-a⟩,⟨Ct (PE ((i+1) % k)),a⟩],[],[]⟩
def As (k n:Nat) (a r:Int) (s:List UInt8):dG:=⟨(List.range k).map λi=>⟨JD i,r⟩,(List.range n).map (Kf k a s)⟩
theorem jQ (b:i<9) (a:o<9) (h:PE i=PE o):i=o:=by
 have:∀i,i<9 ->∀o,o<9 ->PE i=PE o ->i=o:=by decide
 exact this i b o a h
theorem Py (b:i<9) (a:o<9) (h:JD i=JD o):i=o:=by
 unfold JD Ct at h;injection h with _ h
 injection h with h
 exact jQ b a h
theorem KS (a:i<9):Bj (JD i)=0:=by
 have:∀i,i<9 ->Bj (JD i)=0:=by decide
 exact this i a
theorem m5 (s:List UInt8) (a:i<9):0<=Wo s i/\Wo s i<=1000000000:=by
 unfold Wo;have:=fj (s.getD i 0).toNat (by omega:50>0);omega
theorem i4 (s:List UInt8) (b:i<9) (a:o<9) (h:Wo s i=Wo s o):i=o:=by
 unfold Wo at h;have:=fj (s.getD i 0).toNat (by omega:50>0);have:=fj (s.getD o 0).toNat (by omega:50>0);omega
theorem lp (k:Nat) (a:Int) (s:List UInt8) (i:Nat):dq (Kf k a s i)=[(JD i,-a),(JD ((i+1) % k),a)]:=rfl
theorem Lv (t:2<=k/\k<=9) (w:1<=a/\a<=1000000000000) (u:i<k):Ak (Kf k a s i)=0:=by
 have o:=m5 s (by omega:i<9);have y:Mx=1000000000000000:=rfl;unfold Ak;rw [η (by show ¬(¬(0<=(i:Int)/\(i:Int)<=1000000000)\/¬(0<=Wo s i/\Wo s i<=1000000000)\/¬((0:Int)<=0/\(0:Int)<=2));omega),η (by show ¬(256<2\/256<0\/256<0);omega)]
 have l:I7 (Kf k a s i)=0:=by
  unfold I7;refine Pc.2 λp c=>?_
  have b:p=⟨Ct (PE i),-a⟩\/p=⟨Ct (PE ((i+1) % k)),a⟩:=by
   have:p∈ [(⟨Ct (PE i),-a⟩:FM),⟨Ct (PE ((i+1) % k)),a⟩]:=c
   simpa using this
  rcases b with rfl | rfl
  .unfold OG;rw [η (by simp [Ct,PE]),η (by simp [Ct]),η (by show ¬¬(-Mx<= -a/\ -a<=Mx);omega)]
  .unfold OG;rw [η (by simp [Ct,PE]),η (by simp [Ct]),η (by show ¬¬(-Mx<=a/\a<=Mx);omega)]
 have j:Nf (Kf k a s i)=0:=by
  unfold Nf;refine η ?_;rintro ⟨p,c,h⟩
  have b:p.acc.a=[67,65,83,72]:=by
   have:p∈ [(⟨Ct (PE i),-a⟩:FM),⟨Ct (PE ((i+1) % k)),a⟩]:=c;rcases di.1 this with rfl | this
   .rfl
   .rw [ξ.1 this];rfl
  rw [b] at h
  apply h
  unfold CK Kf
  simp [Ct]
  omega
 have g:Na (Kf k a s i)=0:=by
  refine (cO λx f=>?_).symm;obtain ⟨r,v⟩:=x;have:=((Dv _ r v).1 f).2;rw [lp] at this;unfold Ab at this;simp only [dz,List.map_nil,eW,List.sum_nil] at this;show -Mx<=v/\v<=Mx;rw [this]
  split<;>split<;>omega
 show B7 [I7 (Kf k a s i),Rj (Kf k a s i),Qk (Kf k a s i),Nf (Kf k a s i),Na (Kf k a s i)]=0;rw [l,j,g];rfl
theorem Sm (b:2<=k/\k<=9) (f:1<=a/\a<=1000000000000) (c:i<k) (t:o<k):BU (Kf k a s i) (JD o)=(if i=o then -a else 0)+if (i+1) % k=o then a else 0:=by
 have r:=fj (i+1) (by omega:k>0);have l:(JD i=JD o)=(i=o):=propext ⟨Py (by omega) (by omega),λh=>by rw [h]⟩;have g:(JD ((i+1) % k)=JD o)=((i+1) % k=o):=propext ⟨Py (by omega) (by omega),λh=>by rw [h]⟩;unfold BU;rw [ϖ ⟨Lv b f c,KS (by omega)⟩,lp];unfold Ab;simp only [dz,List.map_nil,eW,List.sum_nil,l,g];omega
theorem EZ {x:AG}:x∈(As k h a j s).it↔∃i,i<h/\x=Kf k a s i:=by
 unfold As;show x∈List.map _ _↔_;rw [υ];exact ⟨λ⟨i,c,b⟩=>⟨i,Γ.1 c,b.symm⟩,λ⟨i,c,b⟩=>⟨i,Γ.2 c,b.symm⟩⟩
theorem JP {x:cw}:x∈(As k h a j s).ro↔∃i,i<k/\x=⟨JD i,j⟩:=by
 unfold As;show x∈List.map _ _↔_;rw [υ];exact ⟨λ⟨i,c,b⟩=>⟨i,Γ.1 c,b.symm⟩,λ⟨i,c,b⟩=>⟨i,Γ.2 c,b.symm⟩⟩
theorem DG (k n:Nat) (a r:Int) (s:List UInt8):(As k n a r s).it.map AG.id=(List.range n).map λi:Nat=>(i:Int):=by
 unfold As;show List.map _ (List.map _ _)=_;rw [dl];rfl
theorem Mh {g:Type} {f:Nat ->g} (c:∀i j,i<h ->j<h ->f i=f j ->i=j):((List.range h).map f).Nodup:=by
 rw [List.Nodup,ep];refine List.Pairwise.imp_of_mem (λ{a b} l k o e=>?_) List.pairwise_lt_range;have:=c a b (Γ.1 l) (Γ.1 k) e;omega
theorem Ij {s:List UInt8} (u:2<=k/\k<=9) (D:h<=k) (w:1<=a/\a<=1000000000000) (C:0<=j/\j<a):Ai (As k h a j s)=0:=by
 have E:Mx=1000000000000000:=rfl
 have B:CY (As k h a j s).ro=0:=by
  refine UD (λo t=>?_) ?_
  .obtain ⟨i,f,rfl⟩:=JP.1 t;exact ⟨KS (by omega),by show -4*Mx<=j;omega,by show j<=4*Mx;omega⟩
  .unfold As;show (List.map _ (List.map _ _)).Nodup;rw [dl];exact Mh λi b f v c=>Py (by omega) (by omega) c
 have A:Db (As k h a j s).it=0:=by
  refine Xg (λx g=>?_) ?_ ?_
  .obtain ⟨i,f,rfl⟩:=EZ.1 g;exact Lv u w (by omega)
  .rw [DG];exact Mh λi b _ _ c=>by omega
  .unfold As;show (List.map _ (List.map _ _)).Nodup;rw [dl];exact Mh λi b f v c=>i4 s (by omega) (by omega) c
 have z:Iz (As k h a j s).it=0:=YP λx g y l=>by
  obtain ⟨i,f,rfl⟩:=EZ.1 g
  cases l
 unfold Ai;rw [η (by unfold As;simp only [ψ,eT];omega),B,A,z];rfl
theorem M0 {a r:Int} {s:List UInt8} (f:2<=k/\k<=9) (c:h<=k):E9 (As k h a r s):=by
 refine ⟨by unfold As;simp only [ψ,eT];omega,by unfold As;simp only [ψ,eT];omega,λx b=>?_⟩;obtain ⟨i,g,rfl⟩:=EZ.1 b;exact ⟨by show 2<=_;omega,by show 0<=_;omega,by show 0<=_;omega⟩
theorem VJ {b:Type} {f:b ->Int} {c:Int} (o:c<=0):∀{l:List b},(∀x∈l,f x<=0) ->(∃x∈l,f x<=c) ->(l.map f).sum<=c
 | [],_,h=>by obtain ⟨x,h,_⟩:=h;cases h
 | y::l,h,a=>by
  rw [dz,eW];have r:=h y eI
  have k:∀m:List b,(∀x∈m,f x<=0) ->(m.map f).sum<=0:=λm i=>by
   induction m with
   | nil=>simp
   | cons z m j=>
    rw [dz,eW];have:=i z eI;have:=j λx a=>i x (er _ a);omega
  obtain ⟨x,a,g⟩:=a;rcases di.1 a with rfl | a
  .have:=k l λx a=>h x (er _ a);omega
  .have:=VJ o (λx a=>h x (er _ a)) ⟨x,a,g⟩;omega
theorem Om (g:2<=k/\k<=9) (B:h<=k) (o:1<=a/\a<=1000000000000) (A:0<=j/\j<a) {T:List Int} (l:i<h) (t:(i:Int)∈T) (f:∀b,b<h ->(b+1) % k=i ->(b:Int)∉T):¬DZ (As k h a j s) T:=λy=>by
 have c:=(NP.1 y).2 ⟨JD i,j⟩ (JP.2 ⟨i,by omega,Z⟩)
 have u:(((As k h a j s).it.filter λx=>decide (x.id∈T)).map λx=>BU x (JD i)).sum<= -a:=by
  refine VJ (by omega) (λx v=>?_) ⟨Kf k a s i,Ψ.2 ⟨EZ.2 ⟨i,l,Z⟩,dm t⟩,?_⟩
  .obtain ⟨z,u⟩:=Ψ.1 v;obtain ⟨b,w,rfl⟩:=EZ.1 z;rw [Sm g o (by omega) (by omega),η (λe=>f b w e (fb u))]
   split<;>omega
  .rw [Sm g o (by omega) (by omega),ϖ Z,η (λe=>f i l e t)];omega
 unfold EQ at c;have:max j 0=j:=by omega
 have C:(0:Int)<=max j 0+(((As k h a j s).it.filter λx=>decide (x.id∈T)).map λx=>BU x (JD i)).sum:=c;omega
theorem RK (a:Int) (c:Nat ->Int):∀l:List Nat,(l.map λi=>a*c i).sum=a*(l.map c).sum
 | []=>by simp
 | x::l=>by rw [dz,eW,dz,eW,RK a c l,Int.mul_add]
theorem XB (a:2<=k/\k<=9) (b:o<k):((List.range k).map λi=>((if i=o then (-1:Int) else 0)+if (i+1) % k=o then 1 else 0)).sum=0:=by
 have:∀k,k<10 ->2<=k ->∀o,o<k ->((List.range k).map λi=>((if i=o then (-1:Int) else 0)+if (i+1) % k=o then 1 else 0)).sum=0:=by decide
 exact this k (by omega) a.1 o b
theorem XD (o:2<=k/\k<=9) (u:1<=a/\a<=1000000000000):DZ (As k k a j s) ((List.range k).map λi:Nat=>(i:Int)):=by
 refine NP.2 ⟨λid f=>⟨λx g y c=>?_,λy c=>?_⟩,λx g=>?_⟩
 .rw [<-DG k k a j s]
  have h:y∈dO (dA (As k k a j s).it) x.r:=by
   unfold fL at c
   split at c
   .exact (List.takeWhile_sublist _).mem c
   .cases c
  unfold dO at h;obtain ⟨i,l,rfl⟩:=υ.1 h;exact gp ((KD _).mem_iff.1 (Ψ.1 l).1)
 .rw [<-DG k k a j s] at f;obtain ⟨i,_,e⟩:=EZ.1 (Xd f).1;rw [e] at c;cases c
 .obtain ⟨b,t,rfl⟩:=JP.1 g;unfold EQ;rw [iB.2 λx g=>by rw [<-DG k k a j s];exact dm (gp g)]
  have h:((As k k a j s).it.map λx=>BU x (JD b)).sum=0:=by
   unfold As;show (List.map _ (List.map _ _)).sum=0;rw [dl]
   have v:(List.range k).map ((λx=>BU x (JD b))∘Kf k a s)=(List.range k).map λi=>a*((if i=b then (-1:Int) else 0)+if (i+1) % k=b then 1 else 0):=eE λi l=>by
    show BU (Kf k a s i) (JD b)=_;rw [Sm o u (Γ.1 l) t]
    split<;>split<;>omega
   rw [v,RK,XB o t,Int.mul_zero]
  show 0<=max j 0+((As k k a j s).it.map λx=>BU x (JD b)).sum;rw [h];omega
theorem Ii {s:List UInt8} (b:2<=k/\k<=9) (c:1<=a/\a<=1000000000000) (i:0<=j/\j<a):∀y,y∈dE (As k k a j s)↔y∈(As k k a j s).it.map AG.id:=λy=>by
 have f:=Ij (s:=s) b (κ k) c i;refine ⟨λh=>Ke f h,λh=>?_⟩;rw [DG] at h;exact X5 f (M0 b (κ k)) (XD b c) (λz g=>by rw [DG];exact g) y h
theorem XC {k:Nat} {a r:Int} {s:List UInt8} (b:2<=k/\k<=9) (l:1<=a/\a<=1000000000000) (g:0<=r/\r<a):dE (As k (k - 1) a r s)=[]:=by
 have o:=Ij (s:=s) b (Nat.sub_le k 1) l g;have w:=U1 o (M0 b (Nat.sub_le k 1))
 have h:∀i:Nat,i<k - 1 ->(i:Int)∉dE (As k (k - 1) a r s):=λi=>by
  induction i using Nat.strongRecOn with
  | ind i t=>
   intro c u;refine Om b (Nat.sub_le k 1) l g c u (λj v e=>?_) w;rw [Nat.mod_eq_of_lt (by omega)] at e;exact t j (by omega) v
 refine List.eq_nil_iff_forall_not_mem.2 λy f=>?_;have:=Ke o f;rw [DG] at this;obtain ⟨i,c,rfl⟩:=υ.1 this;exact h i (Γ.1 c) f
theorem MZ {s:List UInt8} (f:2<=k/\k<=9) (t:1<=a/\a<=1000000000000) (o:0<=j/\j<a):CJ (As k k a j s)=[]:=by
 rw [Xp (Ij f (κ k) t o) (M0 f (κ k))]
 have h:(OW (As k k a j s)).find? (λid=>decide (DZ (As k k a j s) [id]))=none:=by
  rw [List.find?_eq_none];intro id c;have c:=((KD _).map AG.id).mem_iff.1 c;rw [DG] at c;obtain ⟨i,w,rfl⟩:=υ.1 c;have l:=Γ.1 w;rw [fI];refine Om f (κ k) t o l eI λb v e u=>?_;have x:b=i:=by have:=ξ.1 u;omega
  subst x;have g:∀k,k<10 ->2<=k ->∀b,b<k ->(b+1) % k≠b:=by decide
  exact g k (by omega) f.1 b v e
 show (match (OW (As k k a j s)).find? (λid=>decide (DZ (As k k a j s) [id])) with
  | none=> []
  | some id=>id::dy 29 (ZP (As k k a j s) id))=[]
 rw [h]
theorem Z3 (f:2<=k/\k<=9) (g:1<=a/\a<=1000000000000) (c:0<=j/\j<a):ft (As k k a j s)=[]:=by
 unfold ft;rw [List.filterMap_eq_nil_iff];intro id b;exact Nc ((Ii f g c id).2 (((KD _).map AG.id).mem_iff.1 b))
theorem Z2 {s:List UInt8} (u:2<=k/\k<=9) (H:1<=a/\a<=1000000000000) (R:0<=j/\j<a):∃c:List Int,fq (dX (As k k a j s)) (dj (As k k a j s))=[c]/\c.length=k:=by
 have U:=Ij (s:=s) u (κ k) H R
 obtain ⟨p,B⟩:∃p,As k k a j s=p:=⟨_,Z⟩
 have A:(dj p).map Prod.fst=dA p.it:=by
  rw [NV];refine iB.2 λx D=>?_;have w:=(Ii (s:=s) u H R x.id).2 (by rw [B];exact gp ((KD _).mem_iff.1 D));rw [B] at w;have C:=MZ (s:=s) u H R;rw [B] at C;unfold oj;rw [dm w,C];rfl
 have z:(dj p).length=k:=by
  rw [<-ψ (f:=Prod.fst),A,kj,<-B];unfold As
  simp
 have M:∀m,m<k ->∃i,i<k/\Cx (dj p) m=Kf k a s i:=λm O=>by
  have w:=θ (l:=dj p) (n:=m) (by omega);have C:Cx (dj p) m∈dA p.it:=by rw [<-A,DP (by omega)];exact gp w
  have h3:=(KD _).mem_iff.1 C;have h4:∀y,y∈p.it ->∃i,i<k/\y=Kf k a s i:=λy J=>by rw [<-B] at J;exact EZ.1 J
  exact h4 _ h3
 have L:∀i,i<k ->∃m,m<k/\Cx (dj p) m=Kf k a s i:=λi g=>by
  have w:Kf k a s i∈(dj p).map Prod.fst:=by rw [A];exact (KD _).mem_iff.2 (by rw [<-B];exact EZ.2 ⟨i,g,Z⟩)
  obtain ⟨e,he,C⟩:=υ.1 w;obtain ⟨m,O,rfl⟩:=gK.1 he;exact ⟨m,by omega,by rw [DP O];exact C⟩
 have E:∀m I,m<k ->I<k ->(Cx (dj p) m).id=(Cx (dj p) I).id ->m=I:=
  λm I w C e=>ST (by have:=FZ U;rw [Zv U,B] at this;exact this) (NV p) m I (by omega) (by omega) e
 have K:∃P:Nat ->Nat,∀i,i<k ->P i<k/\Cx (dj p) (P i)=Kf k a s i:=⟨λi=>if h:i<k then Classical.choose (L i h) else 0,λi g=>by
  have:=Classical.choose_spec (L i g)
  simp only [g,dif_pos];exact this⟩
 obtain ⟨P,G⟩:=K
 have Q:∀x∈dX p,Bj x=0:=by
  intro x D;obtain ⟨o,T,rfl⟩:=υ.1 D;rw [<-B] at T;obtain ⟨i,g,rfl⟩:=JP.1 T;exact KS (by omega)
 have W:∀i b,i<k ->b<k ->(b+1) % k=i ->P b∈cx (fF (dX p) (dj p)) (P i):=λi b g v e=>by
  have S:i≠b:=by
   have:∀k,k<10 ->2<=k ->∀b,b<k ->(b+1) % k≠b:=by decide
   intro h;exact this k (by omega) u.1 b v (by omega)
  refine WA.2 ⟨by rw [z];exact (G i g).1,by rw [z];exact (G b v).1,?_⟩;rw [(G i g).2,(G b v).2];refine (Y5 Q (Lv u H g) (Lv u H v)).2 (.inr ⟨JD i,?_,?_,?_⟩)
  .rw [<-B];exact υ.2 ⟨_,JP.2 ⟨i,g,Z⟩,Z⟩
  .rw [Sm u H g g,ϖ rfl];have:∀k,k<10 ->2<=k ->∀b,b<k ->(b+1) % k≠b:=by decide
   rw [η (this k (by omega) u.1 i g)];omega
  .rw [Sm u H v g,η (λh=>S h.symm),ϖ e];omega
 -- the ring walked backwards
 have hB:∀k,k<10 ->2<=k ->∀m,m<k ->((k - (m+1) % k) % k+1) % k=(k - m) % k:=by decide
 have N:∀k,k<10 ->2<=k ->∀c,c<k ->(k - (k - c) % k) % k=c:=by decide
 have t:∀m,(k - m) % k<k:=λm=>fj _ (by omega)
 have step:∀d m,m<k ->Rh (cx (fF (dX p) (dj p))) (P ((k - m) % k)) (P ((k - (m+d) % k) % k)):=λd m O=>by
  induction d with
  | zero=>rw [fG,Nat.mod_eq_of_lt O];exact .refl _
  | succ d V=>
   have w:=fj (m+d) (by omega:k>0);have C:=hB k (by omega) u.1 _ w;have e3:((m+d) % k+1) % k=(m+(d+1)) % k:=by rw [Nat.mod_add_mod];rfl
   have e4:(k - ((m+d) % k+1) % k) % k=(k - (m+(d+1)) % k) % k:=by rw [e3]
   rw [e4] at C;exact .step V (W _ _ (t _) (t _) C)
 have F:∀x y,x<k ->y<k ->Rh (cx (fF (dX p) (dj p))) x y:=λx y D J=>by
  obtain ⟨i,g,ei⟩:=M x D;obtain ⟨b,v,ej⟩:=M y J;have e1:P i=x:=E _ _ (G i g).1 D (by rw [(G i g).2,ei]);have e2:P b=y:=E _ _ (G b v).1 J (by rw [(G b v).2,ej]);have w:=step ((k - b) % k+k - (k - i) % k) ((k - i) % k) (t i);have Y:=t i;have X:=t b;rw [show (k - i) % k+((k - b) % k+k - (k - i) % k)=(k - b) % k+k by omega,Nat.add_mod_right,Nat.mod_eq_of_lt (t b),N k (by omega) u.1 i g,N k (by omega) u.1 b v,e1,e2] at w;exact w
 rw [B];refine ⟨EF (dj p) (List.range k),?_,by unfold EF;simp⟩;unfold fq;rw [TG,F7,z,N8 (by omega) λi b g v=>⟨F i b g v,F b i v g⟩,QM]
 .rfl
 .intro x D;rw [ξ.1 D];unfold GH;simp only [eT,decide_eq_false_iff_not];omega
theorem Z0 {s:List UInt8} (f:2<=k/\k<=9) (g:1<=a/\a<=1000000000000) (b:0<=j/\j<a):∃(L:List Int) (R:List (List Int)) (c:List Int),fl (As k k a j s)=[Qp L,Qp [],X3 R,X3 [c],.sl none (([]:List (Int×cw)).map om)]/\L.length=k/\c.length=k:=by
 have h:=Ij (s:=s) f (κ k) g b;obtain ⟨c,l,i⟩:=Z2 (s:=s) f g b;refine ⟨dE (As k k a j s),eC (dX (As k k a j s)) (Sf (As k k a j s) (dE (As k k a j s))),c,?_,?_,i⟩
 .unfold fl;rw [MZ f g b,l,Z3 f g b]
 .have o:=(List.perm_ext_iff_of_nodup (F4 h) (WY (JA h).2.1)).2 (Ii f g b);rw [o.length_eq,DG];simp
section
variable {P:Program} {F:Fr} {s:AS} {d:Nat} {ty T E:TypeId} {pos:String} {aft:Array Edge} {g:Option (Nat×Bool)}
theorem MR (f:Nat) {l:List (Nat×Operand)} {n kk z:Nat} {xs:List D} {c b:List (Nat×AV)} {r i o k:Hp} (S:dQ P T E kk z) (H:IC s 0 l=some xs) (I:Nat.beq l.length n=true) (u:NW kk xs=true) (L:Nat.ble (n*kk) 16777216=true)
  (N:AT f s.env=some c) (M:AR f s.hp=some r) (J:Bw r f (.rowD E kk xs)=some i) (K:Nat.blt d s.n=true) (B:Nat.beq xs.length n=true) (y:AT f ((d,.own f 0 n)::c)=some b) (x:AR f i=some o) (v:Bn f o=some k) (a:cu i f=some [.rowD E kk xs]):
  AH P F ⟨some d,.buildSlice T n l.toArray,ty,pos,aft,g⟩ s ⟨s.n,(d,.d (.sl none xs))::b,k⟩ (BS f):=λC A w G=>
 hQ (λ_ _ ⟨t,h,u⟩=>⟨t,h.freeze d f (j:=0) (n:=n) (kk:=kk) (E:=E) (xs:=xs) (ys:=xs) (by simp [get]) (by simp [cr,a,gl,eu]) (gP (Υ B).symm) (ς (gP (Υ B))) y x v a,u⟩)
  (EH f S H I u L N M J K C A w G)
end
variable {a:Nat ->Prop} {c:Value} {w:World} {i:Nat}
theorem AN.slMono {n:Option Bool} {u A:List D} (h:AN w a (.sl n u) c) (G:A.length=u.length) (I:∀(i:Nat) x y,u[i]? =some x ->A[i]? =some y ->y.cells.length=x.cells.length/\(∀f∈y.cells,f.one=true)/\∀(j:Nat) f c',x.cells[j]? =some f ->y.cells[j]? =some c' ->∀c,AN w a f c ->AN w a c' c):AN w a (.sl none A) c:=by
 cases h with
 | sl k Y K P E N Q S M=>
  have cr:∀(i:Nat) y,A[i]? =some y ->∃x,u[i]? =some x:=λi y r=>by
   have l:i<u.length:=by rw [<-G];exact (χ.1 r).1
   exact ⟨_,ω l⟩
  refine .sl k (λ_ h=>by cases h) K (by omega) E N (λy r=>?_) (λh=>S λe=>h (List.length_eq_zero_iff.1 (by rw [G,e];rfl))) λb o e i y r=>?_
  .obtain ⟨i,H,rfl⟩:=eQ r;obtain ⟨x,z⟩:=cr i _ (ω H);rw [(I i x _ z (ω H)).1];exact Q x (ϑ z)
  .obtain ⟨x,z⟩:=cr i y r;obtain ⟨X,W,V⟩:=I i x y z r;have U:=M b o e i x z
   cases U with
   | ptr J R T F C L=>
    have g:∀(j:Nat) f,y.cells[j]? =some f ->∃t,x.cells[j]? =some t:=λj f s=>by
     have l:j<x.cells.length:=by rw [<-X];exact (χ.1 s).1
     exact ⟨_,ω l⟩
    refine .ptr J R T W (λj f s=>?_) λj f s=>?_
    .obtain ⟨t,B⟩:=g j f s;exact C j t B
    .obtain ⟨t,B⟩:=g j f s;exact V j t f B s _ (L j t B)
abbrev jb (x:AG):D:= .agg [AF x.id,AF x.pr,AF x.sq,.sl none (x.po.map Ck),.sl (some true) [],.sl (some true) []]
theorem Xe {k:List AG} (s:∀x∈k,x.pa=[]/\x.af=[]) (h:AN w a (.sl none (k.map jb)) c):AN w a (.sl none (k.map Ap)) c:=by
 refine h.slMono (by simp) λi x y l r=>?_;rw [ζ] at l r
 cases hi:k[i]? with
 | none=>rw [hi] at l;cases l
 | some t=>
  rw [hi] at l r;injection l with l;injection r with r;subst l r
  obtain ⟨z,u⟩:=s t (ϑ hi);refine ⟨Z,by simp [D.cells,D.one],λj b A g f c o=>?_⟩
  match j,g,f with
  | 0,g,f=>injection g with g;injection f with f;subst g f;exact o
  | 1,g,f=>injection g with g;injection f with f;subst g f;exact o
  | 2,g,f=>injection g with g;injection f with f;subst g f;exact o
  | 3,g,f=>injection g with g;injection f with f;subst g f;exact o
  | 4,g,f=>injection g with g;injection f with f;subst g f;rw [z];exact o.anyNil
  | 5,g,f=>injection g with g;injection f with f;subst g f;rw [u];exact o.anyNil
def rI:List (List UInt8):=[[65],[66],[67],[68],[69],[70],[71],[72],[73]]
theorem QI (h:i<9):(rI.map Ae)[i]? =some (Ae (PE i)):=by
 have a:∀i,i<9 ->rI[i]? =some (PE i):=by decide
 rw [ζ,a i h];rfl
theorem qT {a:Int} (h:0<=a/\a<=1000000000000):IntKind.i64.wrap (0 - a)= -a:=by
 rw [Ξ _ (by omega)];omega
theorem Tj (i k:Nat):((i:Nat):Int).tmod (k:Int)=((i % k:Nat):Int):=by
 rw [Int.ofNat_tmod]
theorem rZ {s:List UInt8} (b:i<s.length) (a:i<9):IntKind.i64.wrap (((i+1:Nat):Int)+((100*(s[i].toNat % 50):Nat):Int))=Wo s i:=by
 have:=fj s[i].toNat (by omega:50>0);rw [Ξ _ (by omega)];unfold Wo;rw [Δ,ω b];show _=(i:Int)+1+100*((s[i].toNat % 50:Nat):Int);omega
theorem r6 {s:List UInt8} {i:Nat} (a:¬i<s.length):((i+1:Nat):Int)=Wo s i:=by
 unfold Wo;rw [Δ,fw (by omega)];show _=(i:Int)+1+100*((0 % 50:Nat):Int);omega
theorem Ul (a:List UInt8):AM prog 47 [.d (Ae a)] (.agg [Ae a,AF 0,Ae [67,65,83,72]]):=by
 refine Av func47 Z Z ntmps47 Z Z Z λF b=>(AC (AE ?_));refine V (CE 1 Te Z Z Z Z) (AD (AC (AE (cl Z Z (J (FU Te XK Z Z Z) (V (Bk Z Z Z Z Z Z Z rU) (AD (A6 ?_))))))));exact ⟨_,[],[],A4 Z,Z,Z,Z,Z⟩
theorem ii (k m n:Nat) (a r:Int) (s:List UInt8) (H:2<=k/\k<=9) (G:n+m=k) (I:1<=a/\a<=1000000000000) (E:s.length<=1000000):
  AM prog 18 [.d (AL k),.d (AL m),.d (AF a),.d (AF r),.d (Qh s)] (.agg [.sl none ((As k n a r s).ro.map Cv),.sl none ((As k n a r s).it.map jb)]):=by
 refine Av func18 Z Z ntmps18 Z Z Z λF x=>(AC (AE (V (CE 10 iD Z Z Z Z) (AD (AC ?_)))));refine AE (V (EH 11 lS Z Z Z Z Z Z Z Z) (hJ (emb:=Ae) 15 11 rI Z Z Z Z Z Z Z (AB Z Z (AD (AC (AE (V (CE 12 iD Z Z Z Z) (AD ?_))))))));refine AC (AC (GL 12 0 0 901 Ps Z Z Z Z Z Z Z (GL 12 0 1 902 OB Z Z Z Z Z Z Z (AE (AB Z Z (AD (A2 (Bb (α:=Nat×List cw×List AG) (λq=>⟨82,[(0,(.d (AL k))),(1,(.d (AL m))),(2,(.d (AF a))),(3,(.d (AF r))),(4,(.d (Qh s))),(10,(.ptr 10 0 0)),(11,(.d (.sl none (rI.map Ae)))),(12,(.ptr 12 0 0)),(13,(.d (AL q.1)))],[(901,[.rowD 74 7 (q.2.1.map Cv)]),(902,[.rowD 49 6 (q.2.2.map jb)]),(10,[.blk 31 [XV,XV]]),(12,[.blk 31 [.own 901 0 q.2.1.length,.own 902 0 q.2.2.length]])]⟩) (λq=>q.1<=k/\q.2.1=((List.range q.1).map λi=>(⟨JD i,r⟩:cw))/\q.2.2=(List.range (min q.1 n)).map (Kf k a s)) (λq=>k - q.1) ((0,[],[])) (⟨ϱ _,Z,by rw [Nat.zero_min];rfl⟩) (A0 x [901,902,10,12] Z Z ⟨Z,Z,Z,Z,Z,Z,Z,Z,Z,trivial⟩) ?_))))))));rintro ⟨i,o,u⟩ ⟨v,f,b⟩;dsimp only at v f b⊢;refine AC (AC (AE (cl Z Z (cl Z Z (J (BW Z Z Z) (AD (Ah Z (λl=>?_) (λl=>?_))))))))
 .have B:i<k:=Bi l;refine AZ (AC (A2 (AC ?_)));have A:o.length=i:=by rw [f];simp
  have D:u.length<=i:=by rw [b];simp;omega
  have g:o++ [(⟨JD i,r⟩:cw)]=(List.range (i+1)).map λi=>(⟨JD i,r⟩:cw):=by rw [f,ea,du];rfl
  have z:=fj (i+1) (by omega:k>0);refine Dr [[],[0],[],[],[2,3],[2,3,4],[2,3,4,5],[2,3,4,5,6],[],[2,3,4,5,6,7,8],[2,3,4,5,6,7,8,9],rg 11,rg 12,rg 13] mixed Z (E6 (AX [12] Z (A1 Z Fj Z Z Z) (BQ [21] Z Z (λ_=>A9 (A5 Z Z Z Ro Z)) (At 11 Z Z (At 13 Z Z (AX [23,24] Z (Bq (i) Z Z (Z) (QI (by omega)) underlying122 Z rG Z) (AX [25] Z (EJ Z Z H1 Z) ?_)))))));refine AX [26] Z (B5 (Ul (PE i)) Z Z) (AX [27] Z (FU LY Rf Z Z Z) (At 3 Z Z (AX [28,29] Z (FU Qv mp Z Z Z) (IU [30] [50] [(31,_)] Z Z (λ_=>IV (EH 50 Ps Z Z Z Z Z Z Z Z)) (.inr ⟨31,_,Z,Z,Z,Z,Z⟩) Z Z Z Z Z (Dh 11 Z Z Z (An 12 Z Z (V (Ic (o) ([⟨JD i,r⟩]) Z Z Z Z Z Z Z Z Ps (by simp only [Φ];omega) Z Z Z Z) (AD ⟨Z,?_⟩))))))));refine An 13 Z Z (J (A1 Z Fj Z Z Z) (AD ⟨Z,?_⟩));refine An 14 Z Z (V (Bk Z Z Z Z Z Z Z pR) (AD ⟨Z,?_⟩));refine Dg (AC ?_);refine AC (AE (cl Z Z (cl Z Z (cl Z Z (J (Pg Z Z (Ξ _ (by omega)) Z) (J (D2 Z Z Z) (AD (Ah Z (λy=>?_) (λy=>?_)))))))))
  .have c:i+1<=k/\o++ [(⟨JD i,r⟩:cw)]=((List.range (i+1)).map λi=>(⟨JD i,r⟩:cw))/\u=(List.range (min (i+1) n)).map (Kf k a s):=⟨by omega,g,by rw [b,Nat.min_eq_right (by omega),Nat.min_eq_right (by omega)]⟩
   refine BL (AE (cl Z Z (J (Aw Z Z (AQ (i+1) (by omega)) Z) (AB Z Z (AD ?_)))));exact ⟨(i+1,_,_),c,by show k - (i+1)<k - i;omega,A0 x [901,902,10,12] Z (Z) ⟨Z,Z,Z,Z,Z,Z,Z,Z,Z,trivial⟩⟩
  .refine AZ (AC ?_);have C:i<n:=by omega
   have c:i+1<=k/\o++ [(⟨JD i,r⟩:cw)]=((List.range (i+1)).map λi=>(⟨JD i,r⟩:cw))/\u++ [Kf k a s i]=(List.range (min (i+1) n)).map (Kf k a s):=⟨by omega,g,by rw [b,Nat.min_eq_left (by omega),Nat.min_eq_left (by omega),ea,du];rfl⟩
   refine AE (cl Z Z (J (Aw Z Z (AQ (i+1) (by omega)) Z) (AB Z Z (AD ?_))));refine AC (AC (AE (cl Z Z (cl Z Z (J (JB Z (ψ ..) underlying60 Z) (J (BW Z Z Z) (AD (Ah Z (λj=>?_) (λj=>?_)))))))));have t:i<s.length:=Bi j;refine AE (cl Z Z (cl Z Z ?_));refine cl Z Z (J (Bq (i) Z Z (Z) (Aq t) underlying60 Z s8 Z) (J (EJ Z Z sb Z) (J (MP Z Z (by omega) (Tj s[i].toNat 50) Z) (J (VP Z underlying5 underlying3 (Ξ _ (by have:=fj s[i].toNat (by omega:50>0);omega)) Z) (J (Yy Z Z (AQ (100*(s[i].toNat % 50)) (by have:=fj s[i].toNat (by omega:50>0);omega)) Z) (J (Aw Z Z (rZ t (by omega)) Z) (AB Z Z (AD ?_))))))))
   rotate_left
   rw [r6 (s:=s) (i:=i) λh=>j (by omega)];refine AZ ?_
   all_goals
    refine Dr [[],[0],[],[],[],[],[4,5],[4,5,6],[4,5,6,7],[],[9],[4,5,6,7,8,9,10],[],[],[13],[],[13,14,15],[12,13,14,15,16],[12,13,14,15,16,17],[4,5,6,7,8,12,13,14,15,16,17,18],[],[4,5,6,7,8,12,13,14,15,16,17,18,19,20],[4,5,6,7,8,9,10,11,12,13,14,15,16,17,18,19,20,21],[2,3,4,5,6,7,8,9,10,11,12,13,14,15,16,17,18,19,20,21,22],[2,3,4,5,6,7,8,9,10,11,12,13,14,15,16,17,18,19,20,21,22,23],rg 25,rg 26,rg 27] mixed Z (E6 (AX [12] Z (A1 Z EM Z Z Z) (BQ [54] Z Z (λ_=>A9 (A5 Z Z Z K6 Z)) ?_)));refine At 13 Z Z (At 14 Z Z (At 11 Z Z (At 13 Z Z (AX [58,59] Z (Bq (i) Z Z (Z) (QI (by omega)) underlying122 Z rG Z) (AX [60] Z (EJ Z Z H1 Z) (AX [61] Z (B5 (Ul (PE i)) Z Z) (At 2 Z Z (AX [63] Z (Tr Z (qT (by omega)) Z) ?_))))))));refine AX [62,64] Z (FU ME V2 Z Z Z) (At 11 Z Z (At 13 Z Z (AX [67] Z (Aw Z Z (AQ (i+1) (by omega)) Z) (At 0 Z Z (AX [68,69] Z (MP Z Z (by omega) (Tj (i+1) k) Z) (AX [66,70] Z (Bq ((i+1) % k) Z Z (Z) (QI (by omega)) underlying122 Z rG Z) (AX [71] Z (EJ Z Z H1 Z) (AX [72] Z (B5 (Ul (PE ((i+1) % k))) Z Z) ?_))))))));refine At 2 Z Z (AX [73,74] Z (FU ME V2 Z Z Z) (IU [65,75] [53] [(76,_)] Z Z (λ_=>IV (MR 53 i7 Z Z Z Z Z Z Z Z Z Z Z Z Z)) (.inr ⟨76,_,Z,Z,Z,Z,Z⟩) Z Z Z Z Z (AX [56,57,76] Z (FU Fc mq Z Z Z) (IU [77] [54] [(78,_)] Z Z (λ_=>IV (EH 54 OB Z Z Z Z Z Z Z Z)) (.inr ⟨78,_,Z,Z,Z,Z,Z⟩) Z Z Z Z Z (Dh 25 Z Z Z (An 26 Z Z (V (Ic (u) ([Kf k a s i]) Z Z Z Z Z Z Z Z OB (by simp only [Φ];omega) Z Z Z Z) (AD ⟨Z,?_⟩))))))));refine An 27 Z Z (J (A1 Z EM Z Z Z) (AD ⟨Z,?_⟩));refine An 28 Z Z (V (Bk Z Z Z Z Z Z Z mY) (AD ⟨Z,?_⟩));refine Dg (AE (cl Z Z (J (Aw Z Z (AQ (i+1) (by omega)) Z) (AB Z Z (AD ?_)))));exact ⟨(i+1,_,_),c,by show k - (i+1)<k - i;omega,A0 x [901,902,10,12] Z (Z) ⟨Z,Z,Z,Z,Z,Z,Z,Z,Z,trivial⟩⟩
 .refine BL (AC ?_);have w:i=k:=by have h:=l;omega
  subst w;rw [Nat.min_eq_right (by omega)] at b;subst f b;refine IT (ys:=(As i n a r s).ro.map Cv) 12 0 0 901 Z Z Z (by simp) (ς (by simp)) Z Z Z Z Z Z (IT (ys:=(As i n a r s).it.map jb) 12 0 1 902 Z Z Z (by simp) (ς (by simp)) Z Z Z Z Z Z (AE (J (B1 Z Z Bc Z Z Z) (V (Bk Z Z Z Z Z Z Z pQ) (AD (A6 ?_))))));exact ⟨_,[],[],A4 Z,Z,Z,Z,Z⟩
theorem Z1 (k m n:Nat) (a r:Int) (s:List UInt8) (t:2<=k/\k<=9) (o:n+m=k) (u:1<=a/\a<=1000000000000) (l:s.length<=1000000):
  AM prog 18 [.d (AL k),.d (AL m),.d (AF a),.d (AF r),.d (Qh s)] (CM (As k n a r s)):=
 (ii k m n a r s t o u l).weak λw O v h=>h.aggMono Z (by simp [D.one]) λi c y f b v g=>by
  match i,f,b with
  | 0,f,b=>injection f with f;injection b with b;subst f b;exact g
  | 1,f,b=>
   injection f with f;injection b with b;subst f b
   exact Xe (λx j=>by obtain ⟨i,_,rfl⟩:=EZ.1 j;exact ⟨Z,Z⟩) g
end Go.Proofs.YtnkkaeblokdifaaGreat
namespace Go.Proofs.YtnkkaeblokdifaaGreat
open Go.ChangeShapes Go.WideShapes Go.ChangeAt Go.RowKit
section
variable {H:Type} {enc:TypeId×Value ->H} {w:World}
end
end Go.Proofs.YtnkkaeblokdifaaGreat
