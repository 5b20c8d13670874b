import Derived.Test.YteifpcnphnhaoaaGreatMg17
open Go.Proofs.Tryz
set_option maxHeartbeats 2000000
namespace Go.Proofs.YteifpcnphnhaoaaGreat
open Go.RowKit
variable{M:MF}{a:Type}{c:List a}{f g:Nat->Nat}{h:List (AU×Int)}{i j k o s:Nat}{t:AJ}{x:a}{u:TypeId}{w:List D}{z:TypeId}{A:Nat}{B:AU}{E:Type}{F:Al}
set_option maxRecDepth 100000
theorem Db(x:AU×Int)(l:List (AU×Int))(r:AU):Ai (x::l) r=(if x.1=r then x.2 else 0)+Ai l r:=by simp[Ai]
theorem Ua{m:List (AU×Int)}(a:h.Perm m)(r:AU):Ai h r=Ai m r:=by
 induction a with
 | nil=>rfl
 | cons x _ f=>rw[Db,Db,f]
 | swap x y h=>simp only[Db];omega
 | trans _ _ c b=>rw[c,b]
theorem Iu(a:B∉h.map Prod.fst):Ai h B=0:=by
 induction h with
 | nil=>rfl
 | cons x h b=>
  grind[Db]
theorem W5(c:(h.map Prod.fst).Nodup){v:Int}(a:(B,v)∈h):Ai h B=v:=by
 induction h with
 | nil=>cases a
 | cons x h b=>
  grind[Db,Iu]
theorem U9(c:List (AU×Int))(r:AU):Ai (gH c) r=Ai c r:=by grind[W5,Fd,Fe,Iu,JJ]
theorem lm{f c:Type}{m:List (f×c)}{B seen:List Nat}{x:f×c}(h:x∈CC m B seen):x∈m:=by
 unfold CC at h;obtain ⟨y,g,rfl⟩:=Θ.1 h;exact (List.of_mem_zip (a:=y.1) (b:=y.2) (gk.1 g).1).1
theorem Xj{m:List (a×E)}{B seen:List Nat}:(CC m B seen).length<=m.length:=by grind[CC]
def NJ(l:List AJ)(r:AU):Int:=(l.map λi=>Ai (gf i) r).sum
theorem Ya(l:List AJ)(i:AJ)(r:AU):NJ (l++ [i]) r=NJ l r+Ai (gf i) r:=by simp[NJ]
def kQ(l:List Int)(i:AJ):Bool:=decide (i.id∈l)
theorem UH{l:List AJ}(h:FA l=0):∀i∈l,Ax i=0:=λi c=>by
 have f:=VI.1 h;obtain ⟨j,a,rfl⟩:=iN c;have:=f j (Ψ.2 a);unfold Jy at this;rw[FG Ag a] at this
 split at this
 .contradiction
 .rename_i b;simpa using b
theorem Nm(h:Ax t=0)(r:AU): -Mx<=Ai (gf t) r/\Ai (gf t) r<=Mx:=by
 have a:=(GC h).2.2.2.2.2.2.2.2;unfold M7 at a
 split at a
 .cases a
 .rename_i c
  by_cases b:r∈(gH (gf t)).map Prod.fst
  .grind[Fe]
  grind[Iu,JJ]
theorem o6(h:Ax t=0):Pg (gH (gf t)):=λx a=>by
 have b:=((Fe (gf t) x.1 x.2).1 a).2;rw[b];simpa [Mx] using Nm h x.1
theorem tP(h:Ax t=0):(gH (gf t)).length<=1280:=by
 have a:=(GC h).1;have c:=a.po;have b:=a.pa;have:=I1 (gf t);rw[Hz] at this;omega
theorem Nz{l:List AJ}(h:∀i∈l,Ax i=0)(a:l.length<=1000)(r:AU): -1000000000000000000<=NJ l r/\NJ l r<=1000000000000000000:=by
 have:=JI (l:=l) (f:=λi=>Ai (gf i) r) (B:=1000000000000000) (λi b=>by simpa [Mx] using Nm (h i b) r) 1000 a (by omega);unfold NJ;omega
def V3(p:gB)(l:List Int):List Ad:=p.ro.map λx=>⟨x.r,x.n+NJ (p.it.filter (kQ l)) x.r⟩
theorem Ll{l:List Ad}(h:Dn l=0):∀x∈l,-4000000000000000<=x.n/\x.n<=4000000000000000:=λx b=>by
 have f:=VI.1 h;obtain ⟨j,a,rfl⟩:=iN b;have:=f j (Ψ.2 a);unfold J9 at this;rw[FG I5 a] at this
 split at this
 .contradiction
 .split at this
  .cases this
  .rename_i c;simp only[Mx] at c;omega
theorem UX{p:a->Bool}(b:A<c.length):(c.take (A+1)).filter p=(c.take A).filter p++(if p c[A] then [c[A]] else []):=Es b
theorem au(p:gB)(l:List Int)(Y:E6 p)(hl:l.length<=100000)(G:p.it.length<=1000):AL prog 113 [.d (Bf p),.d (.sl none (l.map AF))] (.tup [.sl none ((if CZ p l=0 then V3 p l else []).map Bj),AF (CZ p l)]):=by
 by_cases j:CZ p l=0
 .have X:=(aA p l Y hl j).by [(4,40)] rfl
  have h0:BB p=0:=by
   unfold CZ at j;split at j
   .exact j
   .rename_i h;simpa using h
  have w:=UH (P6 h0).2.1;have K:=Ll (P6 h0).1;have hb1:=Y.1;rw[ς j,j];refine Av func113 Z Z ntmps113 Z Z Z λF u=>(AC (AE (V (Bh 1 Z Z Z Z Z Z Z) (AB Z Z ?_))));refine AB Z Z (AD (AC (AE (J (Ay Z Z Bp Z Z Z) (ek Z Z (V (FH X Z [40] ⟨Z,trivial⟩ Z Z Z Z Z Z Z Z Z) (ek Z Z (J (DC Z Z Z) ?_))))))));refine J (DC Z Z Z) (AB Z Z (AB Z Z (AD (AC (AC (AE (ek Z Z (J (C6 Z Z Z) ?_))))))));refine AD (Cr Z ((by decide)) (AW (AC (AE (V (Pc 2 Z Z Z Z) (AB Z Z (AD (AC ?_))))))));refine AC (AE (J (AK Z Cc Z Z Z) (J (AO Z Z Z IR Z) (J (BS Z No Z) (ek Z Z (AD (AZ (BM (α:=Nat×List (AU×Int)) (λq=>⟨76,[(2,(.ptr 1 0 0)),(6,(.map 40 0)),(8,(.map 2 0)),(27,(.d (.sl none (p.it.map Af)))),(28,(.d (AF (p.it.length:Int)))),(29,(.d (AF (q.1:Int))))],[(1,[Do 39 p]),(40,[BY AF Ah (BP l)]),(2,[BY Bc AF q.2])]⟩) (λq=>q.1<=p.it.length/\∀r,Ac q.2 r 0=NJ ((p.it.take q.1).filter (kQ l)) r) (λq=>p.it.length-q.1) ((0,[])) (⟨ζ _,λ_=>rfl⟩) (AX u [1,40,2] Z Z ⟨Z,Z,Z,Z,Z,Z,trivial⟩) ?_))))))));rintro ⟨k,M⟩ ⟨T,I⟩;dsimp only at T I⊢;refine AC (AE (J (Az Z Z Z) (AD (AC (A6 Z (λD=>?_) (λD=>?_))))))
  .have f:k<p.it.length:=BQ D;refine AW (AC (AZ (AC (AE ?_))));have y:=w _ (ϑ f);have hs:=(RW p.it[k] (GC y).1).by [(2,41)] rfl;have g:=o6 y;have hEl:=tP y;have Q:=λr=>U9 (gf p.it[k]) r;have hEn:=Fd (gf p.it[k]);have hT:=Nz (l:=(p.it.take k).filter (kQ l)) (λi U=>w i (i8 (gk.1 U).1)) (gY (iI _ _) (by rw[ϱ];omega))
   obtain ⟨E,hEE⟩:∃E,gH (gf p.it[k])=E:=⟨_,Z⟩
   rw[hEE] at hs g hEl Q hEn;refine J (BC (k) Z Z (Z) (A1 f) No Z Ch Z) (J (C7 Z Z CM Z) (V (Bx 3 FK Z Z Z Z) ?_));refine V (B3 Z Z Z Z Z Z Z Ch) (AD (AC (AC (AE (ek Z Z (J (AK Z Nr Z Z Z) (J (AO Z Z Z Am Z) (J (IV (BP l) (p.it[k].id) (false) _ Z Z Z Eo IS Sh Z Z) ?_))))))));rw[YQ];refine J (KH Z Z) (AD (A6 Z (λC=>?_) (λC=>?_)))
   .refine Aw (AE (J (Aj Z Z (AN (k+1) (by omega)) Z) (ek Z Z (AD ?_))));exact ⟨(k+1,M),⟨by show k+1<=_;omega,λr=>by show Ac M r 0=NJ ((p.it.take (k+1)).filter (kQ l)) r;rw[UX f,κ (by unfold kQ;simpa using C),iR];exact I r⟩,by show p.it.length-(k+1)<p.it.length-k;omega,AX u [1,40,2] Z (Z) ⟨Z,Z,Z,Z,Z,Z,trivial⟩⟩
   .refine AW (AC (AE (J (Ay Z Z CM Z Z Z) (V (FH hs Z [41] ⟨Z,trivial⟩ Z Z Z Z Z Z Z Z Z) (V (Gt 4 Z Z Z CP Z Z Z Z) (AD (AZ (BM (α:=List Nat×List (AU×Int)) (λq=>⟨76,[(2,(.ptr 1 0 0)),(6,(.map 40 0)),(8,(.map 2 0)),(27,(.d (.sl none (p.it.map Af)))),(28,(.d (AF (p.it.length:Int)))),(29,(.d (AF (k:Int)))),(40,(.ptr 4 0 0))],[(4,[.iter 41 0 E.length q.1]),(41,[BY Bc AF E]),(1,[Do 39 p]),(40,[BY AF Ah (BP l)]),(2,[BY Bc AF q.2])]⟩) (λq=>∀r,Ac q.2 r 0+Ai (CC E (List.range E.length) q.1) r=NJ ((p.it.take k).filter (kQ l)) r+Ai E r) (λq=>(CC E (List.range E.length) q.1).length) (([],M)) (λr=>by show Ac M r 0+Ai (CC E (List.range E.length) []) r=_;rw[nX (by simp),I r]) (AX u [4,41,1,40,2] Z Z ⟨Z,Z,Z,Z,Z,Z,Z,trivial⟩) ?_))))))));rintro ⟨seen,N⟩ R;dsimp only at R⊢;refine AC (AE (Lz (E) Z Z Z Z (λL=>?_) (λS o b c t P hB41 s=>⟨_,Z,?_⟩)))
    .have O:∀r,Ac N r 0=NJ ((p.it.take k).filter (kQ l)) r+Ai (gf p.it[k]) r:=λr=>by have H:=R r;rw[L] at H;rw[<-Q r];have h2:Ai ([]:List (AU×Int)) r=0:=rfl;omega
     refine J (DC Z Z Z) (AD (AC (Cr Z Z (Aw (AE (J (Aj Z Z (AN (k+1) (by omega)) Z) (ek Z Z (AD ?_))))))));exact ⟨(k+1,N),⟨by show k+1<=_;omega,λr=>by show Ac N r 0=NJ ((p.it.take (k+1)).filter (kQ l)) r;rw[UX f,ς (by unfold kQ;simpa using C),Ya];exact O r⟩,by show p.it.length-(k+1)<p.it.length-k;omega,AX u [1,40,2] Z (Z) ⟨Z,Z,Z,Z,Z,Z,trivial⟩⟩
    .refine J (DC Z Z Z) (AD (AC ?_));refine Bw Z Z (AW (AZ (AC (AE (J (Gu (E) S o Z Z Z t P Z) (J (DC Z Z Z) (J (DC Z Z Z) (V (Bx 5 KM Z Z Z Z) ?_))))))));refine V (B3 Z Z Z Z Z Z Z Yb) (AB Z Z (AD (CK [[],[],[0,1],[],[0,1,2,3],[0,1,3],[0,1,3,5],rg 7] mixed Z (Zr 2 ([BY Bc AF (Bd N b 0)]) Z (Ap 8 Z Z (Ao [11] Z Z (λ_=>Aa (Ay Z Z C9 Z Z Z)) (J1 [46,47] [] Z Z Z (λ_=>Aa (IV (N) (b) (0) _ Z Z Z CP CY P9 Z Z)) (λ_=>Aa (IV (Bd (N) (b) (0)) (b) (0) _ Z Z Z CP CY P9 (EV _ _ _ _) Z)) (Ap 12 Z Z ?_))))))))
     have hNb: -6000000000000000000<=Ac N b 0+c/\Ac N b 0+c<=6000000000000000000:=by {have H:=R b;have h2:=IA (l:=CC E (List.range E.length) seen) (λx hx=>g x (lm hx)) b;have h3:=IA g b;have h4:=Xj (m:=E) (B:=List.range E.length) (seen:=seen);have h5:=hT b;have h6:=g (b,c) (ξ t);simp only at h6;omega}
     refine AR [48,49] Z (Aj Z Z (Ξ _ (by omega)) Z) (F6 [46,47] [2] [(51,_)] Z Z (λ_=>F7 (H3 (N) (b) (0) Z Z Z CP CY P9 Z Z)) (.inr ⟨51,_,Z,Z,Z,Z,Z⟩) Z Z Z Z Z ?_ (hCn:=RG Z));refine AR [51] Z (DC Z Z Z) (Bu 7 Z Z Z (Ab 8 Z Z (V (H5 (N) (b) (0) (Ac N b 0+c) Z Z Z CY Z Z) (AD ⟨Z,?_⟩))));refine Bz ?_;exact ⟨(seen++ [o],_),(λr=>by show Ac (BX N b (Ac N b 0+c)) r 0+Ai (CC E (List.range E.length) (seen++ [o])) r=_;have H:=R r;rw[Ua s,Db] at H;rw[HH];by_cases e:r=b; · {rw[ς e];rw[ς e.symm] at H;rw[e] at H⊢;omega}; · {rw[κ e];rw[κ (λh=>e h.symm)] at H;omega}),by show (CC E (List.range E.length) (seen++ [o])).length<(CC E (List.range E.length) seen).length;rw[s.length_eq];exact jG _,AX u [4,41,1,40,2] Z (Z) ⟨Z,Z,Z,Z,Z,Z,Z,trivial⟩⟩
  .refine Aw (AC ?_);have v:p.it.take k=p.it:=η (by have h:=D;omega);rw[v] at I;have hTb:=Nz (l:=p.it.filter (kQ l)) (λi U=>w i (gk.1 U).1) (gY (iI _ _) G);refine AE (AB Z Z (AD (AC (AC ?_))));refine NF 13 900 NL Z Z Z Z (AE (J (AK Z DW Z Z Z) (J (AO Z Z Z NO Z) (J (BS Z an Z) (ek Z Z (AD (AZ (BM (α:=List Ad) (λa=>⟨76,[(8,(.map 2 0)),(13,(.own 900 0 a.length)),(55,(.d (.sl none (p.ro.map Bj)))),(56,(.d (AF (p.ro.length:Int)))),(57,(.d (AF (a.length:Int))))],[(900,[.rowD 88 7 (a.map Bj)]),(2,[BY Bc AF M])]⟩) (λa=>a.length<=p.ro.length/\a=(V3 p l).take a.length) (λa=>p.ro.length-a.length) ([]) (⟨ζ _,by simp⟩) (AX u [900,2] Z Z ⟨Z,Z,Z,Z,Z,trivial⟩) ?_))))))));rintro a ⟨ha0,hA⟩;refine AC (AE (J (Az Z Z Z) (AD (AC (A6 Z (λA=>?_) (λA=>?_))))))
   .have z:a.length<p.ro.length:=BQ A;refine AW (AC (AZ ?_));refine AC (AE (J (BC (a.length) Z Z (Z) (A1 z) an Z KS Z) (J (C7 Z Z Vi Z) (V (Bx 6 RP Z Z Z Z) (V (B3 Z Z Z Z Z Z Z KS) (AD (CK [[],[],[1],[],[3],[],[],[6],[5,6,7],[3,4,5,6,7,8],[1,2,3,4,5,6,7,8,9],[1,2,3,4,5,6,7,8,9,10],rg 12,rg 13] mixed Z (By ?_))))))));refine Ap 13 Z Z (AR [15] Z (AK Z EX Z Z Z) (Ao [62] Z Z (λ_=>Aa (Ay Z Z C9 Z Z Z)) (AR [15] Z (AK Z PB Z Z Z) (Ao [64] Z Z (λ_=>Aa (AO Z Z Z Fo Z)) (Ap 8 Z Z (AR [15] Z (AK Z EX Z Z Z) (Ao [67] Z Z (λ_=>Aa (Ay Z Z C9 Z Z Z)) (Ao [66,68] Z Z (λ_=>Aa (IV (M) (p.ro[a.length].r) (0) _ Z Z Z CP CY P9 Z Z)) ?_))))))));have hr1:=K _ (ϑ z);have hr2:=hTb p.ro[a.length].r;have hr3:=I p.ro[a.length].r;refine AR [65,69] Z (Aj Z Z (Ξ _ (by omega)) Z) (AR [63,70] Z (E5 RP pW Z Z Z) (F6 [71] [50] [(72,_)] Z Z (λ_=>F7 (C1 50 NL Z Z Z Z Z Z Z Z)) (.inr ⟨72,_,Z,Z,Z,Z,Z⟩) Z Z Z Z Z (Bu 12 Z Z Z (Ab 13 Z Z (V (Ev (a) ([⟨p.ro[a.length].r,p.ro[a.length].n+Ac M p.ro[a.length].r 0⟩]) Z Z Z Z Z Z Z Z NL (by simp only[υ];omega) Z Z Z Z) (AD ⟨Z,?_⟩))))));refine Ab 14 Z Z (AB Z Z (AD ⟨Z,?_⟩));refine Bz (AE (J (Aj Z Z (KN a (⟨p.ro[a.length].r,p.ro[a.length].n+Ac M p.ro[a.length].r 0⟩:Ad) (by omega)) Z) (ek Z Z (AD ?_))));exact ⟨a++ [⟨p.ro[a.length].r,p.ro[a.length].n+Ac M p.ro[a.length].r 0⟩],⟨by rw[Δ];show a.length+1<=_;omega,by rw[Δ];show _=(V3 p l).take (a.length+1);rw[ψ (by unfold V3;simpa using z),<-hA];congr 1;unfold V3;simp[I]⟩,by rw[Δ];show p.ro.length-(a.length+1)<p.ro.length-a.length;omega,AX u [900,2] Z (Z) ⟨Z,Z,Z,Z,Z,trivial⟩⟩
   .refine Aw (AC ?_);have W:a=V3 p l:=by rw[hA];exact η (by unfold V3;rw[χ];have h:=A;omega)
    refine KL (emb:=Bj) 13 900 a Z Z Z Z Z Z Z (AE (ek Z Z (AB Z Z (AB Z Z (AD (A2 ?_))))));exact ⟨_,[],[],A0 Z,Z,Z,by rw[W],Z⟩
 .have X:=W8 p l Y hl j;rw[κ j];refine Av func113 Z Z ntmps113 Z Z Z λF u=>(AC (AE (V (Bh 1 Z Z Z Z Z Z Z) (AB Z Z (YP 4 Z (AB Z Z ?_))))));refine AD (AC (AE (J (Ay Z Z Bp Z Z Z) (ek Z Z (J (Au (X) Z Z) (ek Z Z (J (De Z Z Z) (J (De Z Z Z) ?_))))))));refine AB Z Z (AB Z Z (AD (AC (AC (AE (ek Z Z (J (C6 Z Z Z) (AD ?_))))))));refine Bw Z ((gi j)) (AC (AE (ek Z Z (AB Z Z (YP 4 Z (AB Z Z (AD (A2 ?_))))))));exact ⟨_,[],[],A0 Z,Z,Z,Z,Z⟩
theorem Un(l:List Int)(c:l.length<=1000000):AP prog 89 [.d (.sl none (l.map AF))] [] λr b=>r= .own 20 0 l.length/\b=[(20,[.rowD 3 1 (l.map AF)])]:=by
 refine Av func89 Z Z ntmps89 Z Z Z λF g=>(AC (AE (AB Z Z ?_)));skip;refine AD (AC (AC (AE (ek Z Z (Fq 3 Z (λa=>?_) ?_)))))
 .refine J (Eb E0 Z Z) (AD (Bw Z (Z) (AC (AE (AB Z Z (X2 2 20 BR Z Z Z Z (AD (A2 ?_))))))));exact ⟨_,[20],_,A0 Z,Z,Z,by rw[<-χ (f:=AF),a];rfl,by rw[a]⟩
 .refine J (Eb E0 Z Z) ?_;refine AD (Cr Z (Z) (AW (AC (AE (V (C1 20 BR Z Z Z Z Z Z Z Z) (ek Z Z (V (QD (([]:List Int)) (l) Z Z Z Z Z Z (λ_=>rfl) BR (by simp only[jO];omega) Z Z Z Z) (AB Z Z ?_))))))));skip;refine AD (A2 ?_);exact ⟨_,[20],_,A0 Z,Z,Z,by simp,by simp⟩
def B7(p:gB)(id:Int):AJ:=p.it.getD ((p.it.map AJ.id).idxOf id) Ag
theorem Kx{p:gB}{id:Int}(h:id∈p.it.map AJ.id):∃b:(p.it.map AJ.id).idxOf id<p.it.length,WO id (p.it.map AJ.id)=(((p.it.map AJ.id).idxOf id:Nat):Int)/\B7 p id=p.it[(p.it.map AJ.id).idxOf id]/\(B7 p id).id=id:=by
 have b:(p.it.map AJ.id).idxOf id<(p.it.map AJ.id).length:=List.idxOf_lt_length_iff.2 h;have a:(p.it.map AJ.id).idxOf id<p.it.length:=by simpa using b
 have c:B7 p id=p.it[(p.it.map AJ.id).idxOf id]:=FG Ag a;refine ⟨a,ς h,c,?_⟩;have f:=List.getElem_idxOf b
 grind
theorem cV{m:List a}(h:c.Perm m)(f:a->Int):(c.map f).sum=(m.map f).sum:=by
 induction h with
 | nil=>rfl
 | cons x _ i=>simp[i]
 | swap x y c=>simp;omega
 | trans _ _ g b=>rw[g,b]
theorem WJ(l:List Ad)(k:l.length<=100000):AL prog 92 [.d (.sl none (l.map Bj))] (.sl none (l.map Bj)):=by
 refine Av func92 Z Z ntmps92 Z Z Z λF i=>(AC (AE (AB Z Z (AD (AC (AE (AB Z Z ?_)))))));refine AD (AC (AC (NF 3 900 Yr Z Z Z Z (AE (AB Z Z (AD (AZ (BM (α:=List Ad) (λa=>⟨27,[(0,.d (.sl none (l.map Bj))),(3,(.own 900 0 a.length)),(4,(.d (AF (a.length:Int))))],[(900,[.rowD 100 7 (a.map Bj)])]⟩) (λa=>a=l.take a.length/\a.length<=l.length) (λa=>l.length-a.length) ([]) (⟨by simp,ζ _⟩) (AX i [900] Z Z ⟨Z,Z,Z,trivial⟩) ?_))))))));rintro a ⟨g,j⟩;refine AC (AC (AE (ek Z Z (ek Z Z (J (BS Z an Z) (J (Az Z Z Z) (AD (A6 Z (λf=>?_) (λf=>?_)))))))))
 .have b:a.length<l.length:=BQ f;refine AW (AC (AZ (CK [[],[],[],[1,2],[1,2,3],[1,2,3,4],[1,2,3,4,5],[],[],[7,8],[7,8,9],[7,8,9,10],[1,2,3,4,5,6,7,8,9,10,11],[1,2,3,4,5,6,7,8,9,10,11,12],rg 14,rg 15] mixed Z (By ?_))));refine Ap 3 Z Z (Ap 0 Z Z (Ap 4 Z Z (AR [12,13] Z (BC (a.length) Z Z (Z) (A1 b) an Z KS Z) (AR [14] Z (VK Z EX Z Z Z) (AR [15] Z (C7 Z Z C9 Z) (AR [16] Z (Au (aH l[a.length].r) Z Z) (Ap 0 Z Z (Ap 4 Z Z ?_))))))));refine AR [18,19] Z (BC (a.length) Z Z (Z) (A1 b) an Z KS Z) (AR [20] Z (ND Z PB Z Z Z) (AR [21] Z (CG Z Z Fo Z) (AR [17,22] Z (E5 sC sw Z Z Z) (F6 [23] [50] [(24,_)] Z Z (λ_=>F7 (C1 50 Yr Z Z Z Z Z Z Z Z)) (.inr ⟨24,_,Z,Z,Z,Z,Z⟩) Z Z Z Z Z (Bu 14 Z Z Z (Ab 15 Z Z (V (Ev (a) ([l[a.length]]) Z Z Z Z Z Z Z Z Yr (by simp only[υ];omega) Z Z Z Z) (AD ⟨Z,?_⟩))))))));refine Ab 16 Z Z (AB Z Z (AD ⟨Z,?_⟩));refine Bz (AE (ek Z Z (J (Aj Z Z (KN a l[a.length] (by omega)) Z) (AB Z Z (AD ?_)))));exact ⟨a++ [l[a.length]],⟨GS g b,by rw[Δ];show a.length+1<=_;omega⟩,by rw[Δ];show l.length-(a.length+1)<l.length-a.length;omega,AX i [900] Z (Z) ⟨Z,Z,Z,trivial⟩⟩
 .refine Aw (AC ?_);have c:=I0 g (λh=>f (by omega));refine KL (emb:=Bj) 3 900 a Z Z Z Z Z Z Z (AE (ek Z Z (AB Z Z (AD (A2 ?_)))));exact ⟨_,[],[],A0 Z,Z,Z,by rw[c],Z⟩
theorem rG(p:gB)(r:p.ro.length<=100000)(s:p.it.length<=100000)(o:∀i∈p.it,i.po.length<=10000/\i.pa.length<=10000/\i.af.length<=10000):AL prog 37 [.d (Bf p)] (Bf p):=by
 refine Av func37 Z Z ntmps37 Z Z Z λF j=>(AC (AE (V (Bh 1 Z Z Z Z Z Z Z) (V (Bx 2 aZ Z Z Z Z) ?_))));refine AD (AC (AE (J (AK Z DW Z Z Z) (J (AO Z Z Z NO Z) (J (Au (WJ p.ro r) Z Z) (J (E5 aZ uq Z Z Z) (V (Bx 3 aZ Z Z Z Z) (V (B3 Z Z Z Z Z Z Z pF) ?_))))))));refine AD (AC (AC (Wh 3 0 1 902 J7 Z Z Z Z Z Z Z (AE (AB Z Z (AD (AZ (BM (α:=List AJ) (λa=>⟨28,[(1,(.ptr 1 0 0)),(2,(.ptr 2 0 0)),(3,(.ptr 3 0 0)),(4,(.d (AF (a.length:Int))))],[(902,[.rowD 93 6 (a.map Af)]),(1,[Do 39 p]),(2,[.blk 25 [Ez,Ez]]),(3,[.blk 25 [.d (.sl none (p.ro.map Bj)),.own 902 0 a.length]])]⟩) (λa=>a=p.it.take a.length/\a.length<=p.it.length) (λa=>p.it.length-a.length) ([]) (⟨by simp,ζ _⟩) (AX j [902,1,2,3] Z Z ⟨Z,Z,Z,Z,trivial⟩) ?_))))))));rintro a ⟨g,k⟩;refine AC ?_;refine AC (AE (ek Z Z (J (AK Z Cc Z Z Z) (J (AO Z Z Z IR Z) (J (BS Z No Z) (J (Az Z Z Z) (AD (A6 Z (λf=>?_) (λf=>?_)))))))))
 .have b:a.length<p.it.length:=BQ f;refine AW ?_;refine AC (AZ (CK [[],[0],[],[2],[],[2,3,4],[2,3,4,5],[2,3,4,5,6],[2,3,4,5,6,7],rg 9,rg 10,rg 11] mixed Z (By (AR [3] Z (AK Z J5 Z Z Z) (Ao [16] Z Z (λ_=>Aa (AO Z Z Z DI Z)) (AR [1] Z (AK Z Cc Z Z Z) (Ao [18] Z Z (λ_=>Aa (AO Z Z Z IR Z)) (Ap 4 Z Z ?_))))))));have l:=o _ (ϑ b);refine AR [19,20] Z (BC (a.length) Z Z (Z) (A1 b) No Z Ch Z) (AR [21] Z (C7 Z Z CM Z) (AR [22] Z (Au (Wc p.it[a.length] (by omega) (by omega) (by omega)) Z Z) (F6 [23] [51] [(24,_)] Z Z (λ_=>F7 (C1 51 J7 Z Z Z Z Z Z Z Z)) (.inr ⟨24,_,Z,Z,Z,Z,Z⟩) Z Z Z Z Z (Bu 9 Z Z Z (Ab 10 Z Z (V (Ev (a) ([p.it[a.length]]) Z Z Z Z Z Z Z Z J7 (by simp only[υ];omega) Z Z Z Z) (AD ⟨Z,?_⟩)))))));refine Ab 11 Z Z (J (AK Z J5 Z Z Z) (AD ⟨Z,?_⟩));refine Ab 12 Z Z (V (B3 Z Z Z Z Z Z Z sR) (AD ⟨Z,?_⟩));refine Bz (AE (ek Z Z (J (Aj Z Z (KN a p.it[a.length] (by omega)) Z) (AB Z Z (AD ?_)))));exact ⟨a++ [p.it[a.length]],⟨GS g b,by rw[Δ];show a.length+1<=_;omega⟩,by rw[Δ];show p.it.length-(a.length+1)<p.it.length-a.length;omega,AX j [902,1,2,3] Z (Z) ⟨Z,Z,Z,Z,trivial⟩⟩
 .refine Aw (AC ?_);have c:=I0 g (λh=>f (by omega));refine VR (ys:=p.it.map Af) 3 0 1 902 Z Z Z (by simp) (by rw[c];exact η (by simp)) Z Z Z Z Z Z (AE (J (Ay Z Z EE Z Z Z) (V (B3 Z Z Z Z Z Z Z pF) (AD (A2 ?_)))));exact ⟨_,[],[],A0 Z,Z,Z,Z,Z⟩
abbrev Hd:=Option (Nat×Nat)
def vE:Hd->Nat->Value
 | none,_=> .slice none 0 0
 | some (b,c),n=>sV b n c
abbrev gN(h:Hd)(n:Nat):D:= .raw (vE h n)
structure Nd where
 it:AJ
 eh:Hd
 ef:List (Nat×Int)
 ph:Hd
 pl:List (Nat×Nat)
 on:Bool
structure Po where
 r:AU
 room:Int
 sum:Int
 qh:Hd
 q:List Nat
 mi:Nat
structure gK where
 nd:List Nd
 po:List Po
 nh:Hd
 mh:Hd
abbrev v0(x:Nd):List D:=[AF x.it.id,AF x.it.pr,AF x.it.sq,.sl none (x.it.po.map BT),.sl none (x.it.pa.map C4),.sl none (x.it.af.map AF),gN x.eh x.ef.length,gN x.ph x.pl.length,Ah x.on]
abbrev lN(y:Po):List D:=[AF y.r.k,An y.r.acc.o,AF y.r.acc.k,An y.r.acc.a,An y.r.f,An y.r.t,AF y.room,AF y.sum,gN y.qh y.q.length,AF (y.mi:Int)]
abbrev eW(pb:Nat->Nat)(e:Nat×Int):D:= .agg [pD (pb e.1) 0,AF e.2]
abbrev kN(pb:Nat->Nat)(e:Nat×Nat):D:= .agg [pD (pb e.1) 0,AF (e.2:Int)]
abbrev B2(b:Nat):D:=pD b 0
def B1(M:MF)(h:Hd)(t:TypeId)(k:Nat)(xs:List D):Prop:=match h with
 | none=>xs=[]
 | some (b,c)=>xs.length<=c/\M b=some (.row t k c xs)
abbrev VP(x:Nd):Al:= .cells 184 (v0 x)
abbrev VO(y:Po):Al:= .cells 190 (lN y)
variable{C:Hd}
theorem Vm{g:Al}(i:M k=some (.cells u w)){f:List D}(a:B1 M C z A f):B1 (B5 M k g) C z A f:=by
 match C,a with
 | none,a=>exact a
 | some (j,c),a=>
  grind[B1,B5]
abbrev Ls(v:Value):D:= .raw v
def Cj:Po:=⟨⟨0,SZ,[],[]⟩,0,0,none,[],0⟩
def CR:Nd:=⟨Ag,none,[],none,[],false⟩
structure gQ where
 h:Hd
 t:TypeId
 k:Nat
 xs:List D
inductive RI where
 | e (i:Nat)
 | p (i:Nat)
 | q (j:Nat)
 | n
 | m
def Ce(nb pb:Nat->Nat)(N:gK):RI->gQ
 | .e i=>⟨(N.nd.getD i CR).eh,188,2,(N.nd.getD i CR).ef.map (eW pb)⟩
 | .p i=>⟨(N.nd.getD i CR).ph,254,2,(N.nd.getD i CR).pl.map (kN pb)⟩
 | .q j=>⟨(N.po.getD j Cj).qh,176,1,(N.po.getD j Cj).q.map λi=>B2 (nb i)⟩
 | .n=>⟨N.nh,176,1,(List.range N.nd.length).map λi=>B2 (nb i)⟩
 | .m=>⟨N.mh,186,1,(List.range N.po.length).map λj=>B2 (pb j)⟩
def FJ(M:MF)(R:RI->gQ):Prop:=(∀r,B1 M (R r).h (R r).t (R r).k (R r).xs)/\∀r r' b c c',(R r).h=some (b,c)->(R r').h=some (b,c')->r=r'
def Bi(M:MF):Hd->MF
 | none=>M
 | some (b,_)=>FF M b
variable{R:RI->gQ}
theorem FJ.blk(h:FJ M R){r:RI}{c:Nat}(a:(R r).h=some (k,c)):M k=some (.row (R r).t (R r).k c (R r).xs):=by
 have:=h.1 r;rw[a] at this;exact this.2
theorem Ju{h:Hd}(f:M k=some F)(a:∀c,h≠some (k,c)):Bi M h k=some F:=by
 match h,a with
 | none,_=>exact f
 | some (g,c),a=>
  show FF M g k=_;rw[Hg (λe=>a c (by rw[e]))];exact f
theorem im{a:Nat}{v:Al}(i:Bi M C k=none)(g:M a=some F)(f:∀c,C≠some (a,c)):B5 (Bi M C) k v a=some F:=by grind[Ju,ID]
theorem FJ.upd{R':RI->gQ}(h:FJ M R)(a:RI)(x:∀r,r≠a->R' r=R r){b cap:Nat}(w:Bi M (R a).h b=none)(z:(R' a).h=some (b,cap))(v:(R' a).xs.length<=cap):FJ (B5 (Bi M (R a).h) b (.row (R' a).t (R' a).k cap (R' a).xs)) R':=by
 have l:∀r,r≠a->∀i c,(R r).h=some (i,c)->i≠b:=λr u i c j e=>by
  have f:=h.blk j;have y:=Ju (h:=(R a).h) f λo g=>u (h.2 r a i c o j g)
  grind
 refine ⟨λr=>?_,λr s B c o f y=>?_⟩
 .by_cases e:r=a
  .subst e;rw[z];exact ⟨v,GG _ _ _⟩
  .rw[x r e];have f:=h.1 r
   cases hh:(R r).h with
   | none=>rw[hh] at f;exact f
   | some p=>
    obtain ⟨i,c⟩:=p;rw[hh] at f;exact ⟨f.1,im w f.2 λo g=>e (h.2 r a i c o hh g)⟩
 .by_cases e:r=a<;>by_cases A:s=a
  all_goals (grind[FJ])
theorem FJ.cells(h:FJ M R){a:List D}(c:M k=some (.cells z w)):FJ (B5 M k (.cells u a)) R:=
 ⟨λr=>Vm c (h.1 r),h.2⟩
structure CX (wb mv:Nat) (nb pb:Nat->Nat) (N:gK) (M:MF):Prop where
 n:∀(i:Nat) x,N.nd[i]? =some x->M (nb i)=some (VP x)
 p:∀(j:Nat) y,N.po[j]? =some y->M (pb j)=some (VO y)
 rs:FJ M (Ce nb pb N)
 w:M wb=some (.cells 180 [gN N.nh N.nd.length,gN N.mh N.po.length,Ls (.map (some mv))])
 ni:∀i j:Nat,i<N.nd.length->j<N.nd.length->nb i=nb j->i=j
 pi:∀i j:Nat,i<N.po.length->j<N.po.length->pb i=pb j->i=j
 e:∀x∈N.nd,(∀e∈x.ef,e.1<N.po.length)/\∀e∈x.pl,e.1<N.po.length
 q:∀y∈N.po,∀i∈y.q,i<N.nd.length
theorem Hq{d:a}(h:c[o]? =some x):c.getD o d=x:=by rw[Φ,h];rfl
variable{N:gK}
theorem CX.nn(h:CX i j g f N M)(a:Nat)(x:Nd)(b:N.nd[a]? =some x):M (g a)=some (VP x)/\B1 M x.eh 188 2 (x.ef.map (eW f))/\B1 M x.ph 254 2 (x.pl.map (kN f)):=by
 have k:B1 M (N.nd.getD a CR).eh 188 2 ((N.nd.getD a CR).ef.map (eW f)):=h.rs.1 (.e a);have c:B1 M (N.nd.getD a CR).ph 254 2 ((N.nd.getD a CR).pl.map (kN f)):=h.rs.1 (.p a);rw[Hq b] at k c;exact ⟨h.n a x b,k,c⟩
theorem CX.pp(h:CX i j g f N M)(a:Nat)(y:Po)(c:N.po[a]? =some y):M (f a)=some (VO y)/\B1 M y.qh 176 1 (y.q.map λb=>B2 (g b)):=by
 have k:B1 M (N.po.getD a Cj).qh 176 1 ((N.po.getD a Cj).q.map λb=>B2 (g b)):=h.rs.1 (.q a);rw[Hq c] at k;exact ⟨h.p a y c,k⟩
theorem Er(b:o<c.length)(k:Nat)(d:a):(c.set o x).getD k d=if k=o then x else c.getD k d:=by grind
theorem Qp(b:c[o]? =some x)(k:Nat)(d:a):c.getD k d=if k=o then x else c.getD k d:=by grind
variable{y:Po}
theorem CX.setPo(h:CX i j g f N M){y':Po}(u:N.po[s]? =some y)(E:y'.q=y.q)(C:y'.qh=y.qh):CX i j g f {N with po:=N.po.set s y'} (B5 M (f s) (VO y')):=by
 have H:=h.p s y u;have w:=(φ.1 u).1
 have I:Ce g f {N with po:=N.po.set s y'}=Ce g f N:=funext λr=>by
  cases r with
  | e a=>rfl
  | p a=>rfl
  | n=>rfl
  | m=>show (⟨_,_,_,(List.range (N.po.set s y').length).map _⟩:gQ)=_;rw[iB];rfl
  | q k=>
   show (⟨((N.po.set s y').getD k Cj).qh,_,_,((N.po.set s y').getD k Cj).q.map _⟩:gQ)=⟨(N.po.getD k Cj).qh,_,_,(N.po.getD k Cj).q.map _⟩
   grind
 have o:∀(b:Nat) (t:TypeId) (B:List D),t≠190->M b=some (.cells t B)->B5 M (f s) (VO y') b=some (.cells t B):=λb t B K L=>by
  grind[ID]
 refine ⟨λa x v=>o _ _ _ (by decide) (h.n a x v),λa z l=>?_,by rw[I];exact h.rs.cells H,?_,h.ni,λa k G F=>h.pi a k (by simpa using G) (by simpa using F),λx v=>?_,λz l=>?_⟩
 .have A:a<N.po.length:=by have:=(φ.1 l).1;rw[iB] at this;exact this
  have c:(N.po.set s y')[a]? =some z:=l
  clear l
  rw[kB] at c
  split at c
  .grind[GG]
  .rename_i e
   rw[ID]
   .exact h.p a z c
   .intro J;exact e (h.pi a s A w J).symm
 .show B5 M (f s) (VO y') i=some (.cells _ [gN N.nh N.nd.length,gN N.mh (N.po.set s y').length,_]);rw[iB];exact o _ _ _ (by decide) h.w
 .have:=h.e x v
  simpa using this
 .rcases kA l with l | rfl
  .exact h.q z l
  .rw[E];exact h.q y (ξ u)
theorem CX.setNd(h:CX i j g f N M){x x':Nd}(v:N.nd[o]? =some x)(I:x'.ef=x.ef)(P:x'.eh=x.eh)(H:x'.pl=x.pl)(O:x'.ph=x.ph):CX i j g f {N with nd:=N.nd.set o x'} (B5 M (g o) (VP x')):=by
 have F:=h.n o x v;have A:=(φ.1 v).1
 have G:Ce g f {N with nd:=N.nd.set o x'}=Ce g f N:=funext λr=>by
  cases r with
  | q a=>rfl
  | m=>rfl
  | n=>show (⟨_,_,_,(List.range (N.nd.set o x').length).map _⟩:gQ)=_;rw[iB];rfl
  | e k=>
   show (⟨((N.nd.set o x').getD k CR).eh,_,_,((N.nd.set o x').getD k CR).ef.map _⟩:gQ)=⟨(N.nd.getD k CR).eh,_,_,(N.nd.getD k CR).ef.map _⟩
   grind
  | p k=>
   show (⟨((N.nd.set o x').getD k CR).ph,_,_,((N.nd.set o x').getD k CR).pl.map _⟩:gQ)=⟨(N.nd.getD k CR).ph,_,_,(N.nd.getD k CR).pl.map _⟩
   grind
 have s:∀(b:Nat) (t:TypeId) (B:List D),t≠184->M b=some (.cells t B)->B5 M (g o) (VP x') b=some (.cells t B):=λb t B K L=>by
  grind[ID]
 refine ⟨λa z l=>?_,λa y u=>s _ _ _ (by decide) (h.p a y u),by rw[G];exact h.rs.cells F,?_,λa k E C=>h.ni a k (by simpa using E) (by simpa using C),h.pi,λz l=>?_,λy u=>?_⟩
 .have w:a<N.nd.length:=by have:=(φ.1 l).1;rw[iB] at this;exact this
  have c:(N.nd.set o x')[a]? =some z:=l
  clear l
  rw[kB] at c
  split at c
  .grind[GG]
  .rename_i e
   rw[ID]
   .exact h.n a z c
   .intro J;exact e (h.ni a o w A J).symm
 .show B5 M (g o) (VP x') i=some (.cells _ [gN N.nh (N.nd.set o x').length,gN N.mh N.po.length,_]);rw[iB];exact s _ _ _ (by decide) h.w
 .rcases kA l with l | rfl
  .exact h.e z l
  .rw[I,H];exact h.e x (ξ v)
 .have:=h.q y u
  simpa using this
abbrev HN(M:MF):Hp:=[(40,[.multi M])]
def uC(y:Po)(c:Int):Int:=max y.room 0+c
def T9(y:Po)(c:Int):Bool:=decide (c<0/\uC y c<0)
theorem nL{b i:Nat}{g a:Nat->Nat}{N:gK}{M:MF}(h:CX b i g a N M){j:Nat}{y:Po}(k:N.po[j]? =some y)(c:Int)(t: -1000000000000000000<=y.room/\y.room<=1000000000000000000)(u: -2000000000000000000<=c/\c<=2000000000000000000):
  AP prog 198 [.d (pD (a j) 0),.d (AF c)] (HN M) λr s=>r= .d (AF (uC y c))/\s=HN M:=by
 have l:=h.p j y k;have o:(if 0>y.room then 0 else y.room)=max y.room 0:=by rw[Int.max_def];split<;>split<;>omega
 refine Av func198 Z Z ntmps198 Z Z Z λF v=>(AC (AE (AB Z Z (AD (AC (AE (ek Z Z ?_)))))));refine J (Dh Z Z) (J (Cd Z SE Z Z Z) (J (EI (f:=40) Z Z (l) Z Fo Z) (J (RY Z Z (o) Z) (ek Z Z (J (Aj Z Z (Ξ _ (by omega)) Z) (AB Z Z (AD (A2 ?_))))))));exact ⟨_,[40],_,A0 Z,Z,Z,Z,Z⟩
theorem Mm(h:CX i j g f N M)(a:N.po[s]? =some y)(c:Int)(b: -1000000000000000000<=y.room/\y.room<=1000000000000000000)(k: -2000000000000000000<=c/\c<=2000000000000000000):
  AP prog 150 [.d (pD (f s) 0),.d (AF c)] (HN M) λr t=>r= .d (Ah (T9 y c))/\t=HN M:=by
 have l:=nL h a c b k;refine Av func150 Z Z ntmps150 Z Z Z λF u=>(AC ?_);refine AE (AB Z Z (AD (AC (AE (ek Z Z (J (Az Z Z Z) (ek Z Z (CU 7 Z (λo=>?_) (λo=>?_)))))))));refine AQ Z Z Z (ek Z Z (AQ Z Z Z (ek Z Z (AQ Z Z Z (V (FH l Z [40] ⟨Z,trivial⟩ Z Z Z Z Z Z Z Z Z) (AQ Z Z Z (J (Az Z Z Z) (J (BZ Z Z Z Z) ?_))))))))
 rotate_left
 refine AI Z Z Z Z (AI Z Z Z Z (AI Z Z Z Z (AI Z Z Z Z (J (Be Z Z Z Z) ?_))))
 all_goals
  refine AB Z Z (AD (A2 ?_));exact ⟨_,[40],_,A0 Z,Z,Z,QW (by unfold T9;first | exact (gp (by omega)).symm | exact decide_eq_decide.2 ⟨λh=>⟨by omega,h⟩,λh=>h.2⟩),Z⟩
section
variable{P:Program}{F:Fr}{s:AS}{d:Nat}{x y:Operand}{T E:TypeId}{ty:TypeId}{pos:String}{aft:Array Edge}{g:Option (Nat×Bool)}{k:IntKind}{i:Int}
variable{h:Hd}{a:Nat}
theorem Wg{h:Hd}{n:Nat}(j:h=none->n=0)(f:s.ev x=some (.d (gN h n)))(o:P.underlying T=some (.slice E))(l:Nat.blt d s.n=true):
  AA P F ⟨some d,.call {callee:= .builtin .len,args:= #[x],argTypes:= #[T]},ty,pos,aft,g⟩ s d (.d (AF (n:Int))):=by
 match h,j,f with
 | none,j,f=>
  have e:=j rfl;subst e;exact XD (a:=none) (n:=0) (cap:=0) f o l
 | some (b,c),_,f=>exact XD (a:=some ⟨b,0,none⟩) (n:=n) (cap:=c) f o l
theorem Wj{b c f:Nat}(t:h=some (b,c))(m:Nat)(l:s.ev x=some (.d (gN h a)))(j:s.ev y=some (.d (.raw (.int k i))))(r:i=(m:Int))(o:m<a)(v:P.underlying T=some (.slice E))(w:A4 P E f=true)(u:Nat.blt d s.n=true):
  AA P F ⟨some d,.indexAddr T x y,ty,pos,aft,g⟩ s d (.d (pD b (m*f))):=by
 subst t;exact Yk m l j r o v w u
end
variable{a:Type}{c:List a}{f:List Po}{M:MF}{k:Nat}{t:TypeId}{h:Hd}{g:a->D}{i j:Nat->Nat}{o:Nat}{N:gK}{y:Po}{s u:Nat}
theorem VJ(b:B1 M h t k (c.map g)):h=none->c.length=0:=λe=>by
 subst e;have:c.map g=[]:=b
 simpa using this
theorem VU(o:B1 M h t k (c.map g)){j:Nat}(r:j<c.length):∃b i,h=some (b,i):=by
 cases h with
 | none=>have:=VJ o rfl;omega
 | some p=>exact ⟨p.1,p.2,Z⟩
theorem Sc{a:List D}(f:B1 M h t k a){b c:Nat}(g:h=some (b,c)):M b=some (.row t k c a):=by
 subst g;exact f.2
def NK(po:List Po)(e:Nat×Int):List Po:=match po[e.1]? with
 | some y=>po.set e.1 {y with sum:=y.sum-e.2}
 | none=>po
def Pt(po:List Po)(e:Nat×Nat):List Po:=match po[e.1]? with
 | some y=>po.set e.1 {y with mi:=min y.mi e.2}
 | none=>po
theorem kp{e:Nat×Int}(h:f[e.1]? =some y):NK f e=f.set e.1 {y with sum:=y.sum-e.2}:=by unfold NK;rw[h]
theorem Xc{e:Nat×Nat}{y:Po}(h:f[e.1]? =some y):Pt f e=f.set e.1 {y with mi:=min y.mi e.2}:=by unfold Pt;rw[h]
def Em(x:Nd):Nd:={x with on:=false}
def s7(N:gK)(i:Nat)(x:Nd):gK:={N with nd:=N.nd.set i (Em x),po:=x.pl.foldl Pt (x.ef.foldl NK N.po)}
theorem MP{g:Type}{f:g->a->g}(h:k<c.length)(b:g):(c.take (k+1)).foldl f b=f ((c.take k).foldl f b) c[k]:=by
 rw[ψ h,List.foldl_append];rfl
def Ss(po:List Po)(b:Int):Prop:=∀y∈po,-b<=y.sum/\y.sum<=b
theorem bJ{b c:Int}(h:Ss f b)(i:b<=c){j:Nat}(g: -c<=y.sum/\y.sum<=c):Ss (f.set j y) c:=λz a=>by
 rcases kA a with a | rfl
 .have:=h z a;omega
 .exact g
theorem cH(h:CX s u j i N M){x:Nd}(E:N.nd[o]? =some x)(hB:Ss N.po 1000000000000000000)(he:∀e∈x.ef,-100000000000000000<=e.2/\e.2<=100000000000000000)(hel:x.ef.length<=60)(hpl:x.pl.length<=1000)(hpb:∀e∈x.pl,e.2<=1000000)(hmb:∀y∈N.po,y.mi<=1000000):
  AP prog 140 [.d (pD (j o) 0)] (HN M) λr H'=>r= .tup []/\∃M',H'=HN M'/\CX s u j i (s7 N o x) M':=by
 have hxb:=(h.nn o x E).1;have hil:=(φ.1 E).1;have h1:=h.setNd (x':=Em x) E Z Z Z Z;have G:(N.nd.set o (Em x))[o]? =some (Em x):=by rw[List.getElem?_set_self hil]
 have hez:=VJ (h.nn o x E).2.1;have hpz:=VJ (h.nn o x E).2.2;have S:=h.e x (ξ E);refine Av func140 Z Z ntmps140 Z Z Z λF hF=>(AC ?_);refine AE (ek Z Z (J (Dh Z Z) (J (Cd Z FT Z Z Z) (V (QF (f:=40) Z Z Z Z (hxb) ((by show _<9;omega)) Z sO) (AD (AC (AC (AE ?_))))))));refine ek Z Z (J (Dh Z Z) (J (Cd Z LL Z Z Z) (J (EI (f:=40) Z Z ((GG _ _ _)) Z XW Z) (J (Wg hez Z underlying181 Z) (ek Z Z (AD (AZ (BM (α:=Nat×List Po×MF) (λq=>⟨51,[(0,.d (pD (j o) 0)),(12,(.d (gN x.eh x.ef.length))),(13,(.d (AF (x.ef.length:Int)))),(14,(.d (AF (q.1:Int))))],HN q.2.2⟩) (λq=>q.1<=x.ef.length/\q.2.1=(x.ef.take q.1).foldl NK N.po/\CX s u j i {N with nd:=N.nd.set o (Em x),po:=q.2.1} q.2.2/\Ss q.2.1 (1000000000000000000+100000000000000000*(q.1:Int))/\(∀y∈q.2.1,y.mi<=1000000)/\q.2.1.length=N.po.length) (λq=>x.ef.length-q.1) ((0,N.po,B5 M (j o) (VP (Em x)))) (⟨ζ _,Z,h1,by show Ss N.po (1000000000000000000+100000000000000000*((0:Nat):Int));simpa using hB,hmb,Z⟩) (AX hF [40] Z Z ⟨Z,Z,Z,Z,trivial⟩) ?_))))))));rintro ⟨k,po,M1⟩ ⟨hk0,I,O,hS,C,c⟩;dsimp only at hk0 I O hS C c⊢;refine AC (AE (J (Az Z Z Z) (AD (AC (A6 Z (λL=>?_) (λL=>?_))))))
 .have l:k<x.ef.length:=BQ L;refine AW (AC (AZ (AC ?_)));obtain ⟨eb,ec,hee⟩:=VU (h.nn o x E).2.1 l;have U:=Sc (O.nn o (Em x) G).2.1 hee;have hjl:x.ef[k].1<po.length:=by rw[c];exact S.1 _ (ϑ l)
  obtain ⟨y,R⟩:∃y,po[x.ef[k].1]? =some y:=⟨_,ω hjl⟩
  have Q:=O.p _ y R;have hys:=hS y (ξ R);have heb:=he _ (ϑ l);refine AE ?_;refine J (Wj hee (k) Z Z Z l underlying181 Sq Z) (J (EM (f:=40) (e:=k) Z (Z) Z (U) (A1 l) Z bk Z) (V (Bx 1 aa Z Z Z Z) (V (B3 Z Z Z Z Z Z Z Sq) (AD (CK [[],[0],[0,1],[0,1,2],[0,1,2,3],[],[5],rg 7,rg 8,rg 9,rg 10] mixed Z (By (AR [3] Z (AK Z SG Z Z Z) (Aq [18] [1] Z Z (λ_=>Aa (AO Z Z Z FE Z)) ?_))))))));refine AR [19] Z (Dh Z Z) (AR [20] Z (Cd Z LJ Z Z Z) (Aq [21] [40] Z Z (λ_=>Aa (EI (f:=40) Z Z (Q) Z Fo Z)) (AR [3] Z (AK Z SF Z Z Z) (Aq [23] [1] Z Z (λ_=>Aa (AO Z Z Z Fo Z)) (Bu 7 Z Z Z (Ab 8 Z Z (J (P4 Z Z (Ξ _ (by omega)) Z) (AD ⟨Z,?_⟩))))))));refine Ab 9 Z Z (J (Dh Z Z) (AD ⟨Z,?_⟩));refine Ab 10 Z Z (J (Cd Z LJ Z Z Z) (AD ⟨Z,?_⟩));refine Ab 11 Z Z (V (QF (f:=40) Z Z Z Z (Q) ((by show _<10;omega)) Z u1) (AD ⟨Z,?_⟩));refine Bz (AE (J (Aj Z Z (AN (k+1) (by omega)) Z) (ek Z Z (AD ?_))));exact ⟨(k+1,po.set x.ef[k].1 {y with sum:=y.sum-x.ef[k].2},B5 M1 (i x.ef[k].1) (VO {y with sum:=y.sum-x.ef[k].2})),⟨by show k+1<=_;omega,by show po.set _ _=_;rw[MP l,<-I,kp R],O.setPo R Z Z,by show Ss _ (1000000000000000000+100000000000000000*((k+1:Nat):Int));exact bJ hS (by omega) (by show _<=y.sum-x.ef[k].2/\y.sum-x.ef[k].2<=_;omega),λz D=>by rcases kA D with D | rfl;exact C z D;exact C y (ξ R),by show (po.set _ _).length=_;rw[iB];exact c⟩,by show x.ef.length-(k+1)<x.ef.length-k;omega,AX hF [40] Z (Z) ⟨Z,Z,Z,Z,trivial⟩⟩
 .refine Aw (AC ?_);have X:po=x.ef.foldl NK N.po:=by rw[I,η (by have h:=L;omega)]
  have T:=(O.nn o (Em x) G).1;refine AE ?_;refine ek Z Z (J (Dh Z Z) (J (Cd Z LK Z Z Z) (J (EI (f:=40) Z Z (T) Z XV Z) (J (Wg hpz Z underlying182 Z) (ek Z Z (AD (AZ (BM (α:=Nat×List Po×MF) (λq=>⟨51,[(32,(.d (gN x.ph x.pl.length))),(33,(.d (AF (x.pl.length:Int)))),(34,(.d (AF (q.1:Int))))],HN q.2.2⟩) (λq=>q.1<=x.pl.length/\q.2.1=(x.pl.take q.1).foldl Pt (x.ef.foldl NK N.po)/\CX s u j i {N with nd:=N.nd.set o (Em x),po:=q.2.1} q.2.2/\(∀y∈q.2.1,y.mi<=1000000)/\q.2.1.length=N.po.length) (λq=>x.pl.length-q.1) ((0,po,M1)) (⟨ζ _,X,O,C,c⟩) (AX hF [40] Z Z ⟨Z,Z,Z,trivial⟩) ?_))))))));rintro ⟨a,g,M2⟩ ⟨hj0,t,B,v,b⟩;dsimp only at hj0 t B v b⊢;refine AC (AE (J (Az Z Z Z) (AD (AC (A6 Z (λK=>?_) (λK=>?_))))))
  .have A:a<x.pl.length:=BQ K;refine AW (AC (AZ (AC ?_)));obtain ⟨pbk,pcc,Y⟩:=VU (h.nn o x E).2.2 A;have H:=Sc (B.nn o (Em x) G).2.2 Y;have hjl2:x.pl[a].1<g.length:=by rw[b];exact S.2 _ (ϑ A)
   obtain ⟨z,D⟩:∃z,g[x.pl[a].1]? =some z:=⟨_,ω hjl2⟩
   have P:=B.p _ z D;have hzm:=v z (ξ D);have hmin:(if ((x.pl[a].2:Nat):Int)<((z.mi:Nat):Int) then ((x.pl[a].2:Nat):Int) else ((z.mi:Nat):Int))=((min z.mi x.pl[a].2:Nat):Int):=by split<;>omega
   refine AE (J (Wj Y (a) Z Z Z A underlying182 QJ Z) (J (EM (f:=40) (e:=a) Z (Z) Z (H) (A1 A) Z bi Z) (V (Bx 2 Wl Z Z Z Z) ?_)));refine V (B3 Z Z Z Z Z Z Z QJ) (AD (CK [[],[0],[],[2],[2,3],[2,3,4],[2,3,4,5],[],[7],[2,3,4,5,6,7,8],rg 10,rg 11,rg 12] mixed Z (By (AR [5] Z (AK Z Hv Z Z Z) (Aq [38] [2] Z Z (λ_=>Aa (AO Z Z Z FE Z)) (AR [5] Z (AK Z Hv Z Z Z) (Aq [40] [2] Z Z (λ_=>Aa (AO Z Z Z FE Z)) (AR [41] Z (Dh Z Z) ?_))))))));refine AR [42] Z (Cd Z LI Z Z Z) (Aq [43] [40] Z Z (λ_=>Aa (EI (f:=40) Z Z (P) Z Am Z)) (AR [5] Z (AK Z SD Z Z Z) (Aq [45] [2] Z Z (λ_=>Aa (AO Z Z Z Am Z)) (AR [44,46] Z (RX Z Z (hmin) Z) (Bu 10 Z Z Z (Ab 11 Z Z (J (Dh Z Z) (AD ⟨Z,?_⟩))))))));refine Ab 12 Z Z (J (Cd Z LI Z Z Z) (AD ⟨Z,?_⟩));refine Ab 13 Z Z (V (QF (f:=40) Z Z Z Z (P) ((by show _<10;omega)) Z BW) (AD ⟨Z,?_⟩));refine Bz ?_;skip;refine AE (J (Aj Z Z (AN (a+1) (by omega)) Z) (ek Z Z (AD ?_)));exact ⟨(a+1,g.set x.pl[a].1 {z with mi:=min z.mi x.pl[a].2},B5 M2 (i x.pl[a].1) (VO {z with mi:=min z.mi x.pl[a].2})),⟨by show a+1<=_;omega,by show g.set _ _=_;rw[MP A,<-t,Xc D],B.setPo D Z Z,λw hw=>by rcases kA hw with hw | rfl;exact v w hw;show min z.mi _<=_;omega,by show (g.set _ _).length=_;rw[iB];exact b⟩,by show x.pl.length-(a+1)<x.pl.length-a;omega,AX hF [40] Z (Z) ⟨Z,Z,Z,trivial⟩⟩
  .refine Aw ?_;have W:g=x.pl.foldl Pt (x.ef.foldl NK N.po):=by rw[t,η (by have h:=K;omega)]
   exact ⟨_,[40],_,A0 Z,Z,Z,Z,M2,Z,by unfold s7;rw[<-W];exact B⟩
def B8(N:gK):List Int:=N.nd.map λx=>x.it.id
def G4(nb:Nat->Nat)(ids:List Int):List (Int×Value):=(List.range ids.length).map λi=>(ids.getD i 0,pV (nb i) 0)
theorem SY{nb:Nat->Nat}{a:List Int}(c:a.Nodup)(b:o<a.length):Ac (G4 nb a) a[o] (.pointer none)=pV (nb o) 0:=by
 refine D8 ?_ (Θ.2 ⟨o,Ψ.2 b,by rw[FG 0 b]⟩)
 have:(G4 nb a).map Prod.fst=a:=by
  unfold G4;rw[gw];refine ir (by simp) λj g f=>?_
  grind
 grind
abbrev HW(mv:Nat)(bs:Option (List Nat×Nat))(L:List (Int×Value))(M:MF):Hp:=[(40,[.multi M]),(50,[.map bs (B4 AF Ls L)]),(51,[.addr 50 0 (.map (some mv))])]
structure Pf where
 id:Int
 re:Int
 r:AU
 by_:Int
def GO:AU:=⟨0,SZ,[],[]⟩
def mS:Pf:=⟨0,0,GO,0⟩
abbrev eN(e:Pf):D:= .agg [AF e.id,AF e.re,AF e.r.k,An e.r.acc.o,AF e.r.acc.k,An e.r.acc.a,An e.r.f,An e.r.t,AF e.by_]
abbrev tm(o:Option Pf):D:= .tup [eN (o.getD mS),Ah o.isSome]
def Ux(N:gK)(e:Nat×Nat):Bool:=decide ((N.po.getD e.1 Cj).mi<e.2)
def eM(N:gK)(x:Nd)(e:Nat×Nat):Pf:=⟨x.it.id,1,(N.po.getD e.1 Cj).r,(N.nd.getD ((N.po.getD e.1 Cj).q.getD (N.po.getD e.1 Cj).mi 0) CR).it.id⟩
def Dr(N:gK)(id:Int):Bool:=!(N.nd.getD ((B8 N).idxOf id) CR).on
def IL(N:gK)(x:Nd):Option Pf:=match x.pl.find? (Ux N) with
 | some e=>some (eM N x e)
 | none=>match x.it.af.find? (Dr N) with
  | some id=>some ⟨x.it.id,2,GO,id⟩
  | none=>none
theorem Ry{b:Type}{p:b->Bool}:∀{l:List b} {k:Nat} (c:k<l.length),(∀x∈l.take k,p x=false)->p l[k]=true->l.find? p=some l[k]
 | a::l,0,_,_,h=>by simp at h;simp[h]
 | a::l,k+1,c,f,h=>by
  have j:p a=false:=f a (by simp);have g:=Ry (l:=l) (k:=k) (by simpa using c) (λx i=>f x (by simp[i])) (by simpa using h);rw[List.find?_cons,j];simpa using g
theorem Qr{p:a->Bool}(h:∀x∈c,p x=false):c.find? p=none:=by grind
structure i6 (N:gK):Prop where
 i:(B8 N).Nodup
 a:∀x∈N.nd,∀id∈x.it.af,id∈B8 N
 l:∀x∈N.nd,x.ef.length<=60/\x.pl.length<=1000/\x.it.af.length<=1000
 e:∀x∈N.nd,∀e∈x.ef,-100000000000000000<=e.2/\e.2<=100000000000000000
 p:∀x∈N.nd,∀e∈x.pl,e.2<(N.po.getD e.1 Cj).q.length/\e.2<=1000000
 m:∀y∈N.po,y.mi<=1000000
 rm:∀y∈N.po,-1000000000000000000<=y.room/\y.room<=1000000000000000000
 n:N.nd.length<=1000/\N.po.length<=1000
 ql:∀y∈N.po,y.q.length<=1000
theorem mA{wb K:Nat}{nb pb:Nat->Nat}{N:gK}{M:MF}(bs:Option (List Nat×Nat))(h:CX wb K nb pb N M)(hw:i6 N){i:Nat}{x:Nd}(hx:N.nd[i]? =some x):
  AP prog 193 [.d (pD wb 0),.d (pD (nb i) 0)] (HW K bs (G4 nb (B8 N)) M) λr H'=>r= .d (tm (IL N x))/\H'=HW K bs (G4 nb (B8 N)) M:=by
 have hwb:=h.w;have o:=ξ hx;obtain ⟨s,hre,C⟩:=h.nn i x hx;have hpz:=VJ C;obtain ⟨_,hpl,hafl⟩:=hw.l x o;have hxe:=h.e x o;have hxp:=hw.p x o;have hxa:=hw.a x o;refine Av func193 Z Z ntmps193 Z Z Z λF hF=>(AC (AE (V (Bx 1 Jf Z Z Z Z) (AB Z Z (AD (AC (AC (AE ?_))))))));refine ek Z Z (J (Dh Z Z) (J (Cd Z LK Z Z Z) (J (EI (f:=40) Z Z (s) Z XV Z) (J (Wg hpz Z underlying182 Z) (ek Z Z (AD (AZ (BM (α:=Nat) (λk=>⟨85,[(0,.d (pD wb 0)),(1,.d (pD (nb i) 0)),(4,(.ptr 1 0 0)),(13,(.d (gN x.ph x.pl.length))),(14,(.d (AF (x.pl.length:Int)))),(15,(.d (AF (k:Int))))],(1,[.blk 245 [.d (AF 0),.d (AF 0),.d (AF 0),.d (An []),.d (AF 0),.d (An []),.d (An []),.d (An []),.d (AF 0)]])::HW K bs (G4 nb (B8 N)) M⟩) (λk=>k<=x.pl.length/\∀e∈x.pl.take k,Ux N e=false) (λk=>x.pl.length-k) (0) (⟨ζ _,by simp⟩) (AX hF [1,40,50,51] Z Z ⟨Z,Z,Z,Z,Z,Z,trivial⟩) ?_))))))));rintro k ⟨hk0,t⟩;refine AC (AE (J (Az Z Z Z) (AD (AC (A6 Z (λI=>?_) (λI=>?_))))))
 .have a:k<x.pl.length:=BQ I;refine AW (AC (AZ (AC ?_)));obtain ⟨eb,ec,W⟩:=VU C a;have P:=Sc C W;have hjl:x.pl[k].1<N.po.length:=hxe.2 _ (ϑ a)
  obtain ⟨y,hy⟩:∃y,N.po[x.pl[k].1]? =some y:=⟨_,ω hjl⟩
  have w:N.po.getD x.pl[k].1 Cj=y:=by rw[Φ,hy];rfl
  obtain ⟨l,O⟩:=h.pp _ y hy;have hpk:=hxp _ (ϑ a);rw[w] at hpk;refine AE (J (Wj W (k) Z Z Z a underlying182 QJ Z) ?_);refine J (EM (f:=40) (e:=k) Z (Z) Z (P) (A1 a) Z bi Z) (V (Bx 2 Wl Z Z Z Z) (V (B3 Z Z Z Z Z Z Z QJ) (AD (AC (CK [[],[0],[0,1],[0,1,2],[0,1,2,3],[],[5],rg 7] mixed Z (By (AR [7] Z (AK Z Hv Z Z Z) (Aq [19] [2] Z Z (λ_=>Aa (AO Z Z Z FE Z)) ?_))))))));refine AR [20] Z (Dh Z Z) (AR [21] Z (Cd Z LI Z Z Z) (Aq [22] [40] Z Z (λ_=>Aa (EI (f:=40) Z Z (l) Z Am Z)) (AR [7] Z (AK Z SD Z Z Z) (Aq [24] [2] Z Z (λ_=>Aa (AO Z Z Z Am Z)) (Bu 7 Z Z Z (Ab 8 Z Z (J (Az Z Z Z) (AD ⟨Z,?_⟩))))))));refine Bz (A6 Z (λA=>?_) (λA=>?_))
  .refine AC ?_;have b:y.mi<y.q.length:=by have h:=A;omega
   obtain ⟨qb,qc,Q⟩:=VU O b;have E:=Sc O Q;have hni:y.q[y.mi]<N.nd.length:=h.q y (ξ hy) _ (ϑ b)
   obtain ⟨z,L⟩:∃z,N.nd[y.q[y.mi]]? =some z:=⟨_,ω hni⟩
   obtain ⟨B,_,_⟩:=h.nn _ z L;have Y:IL N x=some ⟨x.it.id,1,y.r,z.it.id⟩:=by unfold IL;rw[Ry a t (by unfold Ux;rw[w];exact gi (by have h:=A;omega))];unfold eM;dsimp only;rw[w,FG 0 b,Φ,L];rfl
   refine CK [[],[0],[0,1],[0,1,2],[0,1,2,3],[],[5],[5,6],[5,6,7],[5,6,7,8],[],[10],[10,11],[10,11,12],[10,11,12,13],[],[15],[15,16],[15,16,17],[15,16,17,18],[10,11,12,13,14,15,16,17,18,19],[10,11,12,13,14,15,16,17,18,19,20],[10,11,12,13,14,15,16,17,18,19,20,21],[10,11,12,13,14,15,16,17,18,19,20,21,22],[10,11,12,13,14,15,16,17,18,19,20,21,22,23],[10,11,12,13,14,15,16,17,18,19,20,21,22,23,24],rg 26,rg 27,rg 28] mixed Z (By (Ap 1 Z Z (AR [27] Z (Dh Z Z) (AR [28] Z (Cd Z G2 Z Z Z) ?_))));refine AR [29] Z (Cd Z Nr Z Z Z) (Aq [30] [40] Z Z (λ_=>Aa (EI (f:=40) Z Z (s) Z Am Z)) (AR [7] Z (AK Z Hv Z Z Z) (Aq [32] [2] Z Z (λ_=>Aa (AO Z Z Z FE Z)) (AR [33] Z (Dh Z Z) (AR [34] Z (Cd Z Nc Z Z Z) (Aq [35] [40] Z Z (λ_=>Aa (D3 (f:=40) Z Z (l) C9 Z Z (by simp[D.one]) Z)) (AR [7] Z (AK Z Hv Z Z Z) (Aq [37] [2] Z Z (λ_=>Aa (AO Z Z Z FE Z)) ?_))))))));refine AR [38] Z (Dh Z Z) (AR [39] Z (Cd Z Hw Z Z Z) (Aq [40] [40] Z Z (λ_=>Aa (EI (f:=40) Z Z (l) Z HD Z)) (AR [7] Z (AK Z Hv Z Z Z) (Aq [42] [2] Z Z (λ_=>Aa (AO Z Z Z FE Z)) (AR [43] Z (Dh Z Z) (AR [44] Z (Cd Z LI Z Z Z) (Aq [45] [40] Z Z (λ_=>Aa (EI (f:=40) Z Z (l) Z Am Z)) (AR [41,46] Z (Wj Q (y.mi) Z Z Z b cj Mg Z) ?_))))))));refine Aq [47] [40] Z Z (λ_=>Aa (nY (f:=40) (e:=y.mi) (off:=0) Z (by omega) Z (E) (A1 b) Z O2 Z)) (AR [48] Z (Dh Z Z) (AR [49] Z (Cd Z G2 Z Z Z) (AR [50] Z (Cd Z Nr Z Z Z) (Aq [51] [40] Z Z (λ_=>Aa (EI (f:=40) Z Z (B) Z Am Z)) (Bu 26 Z Z Z (Ab 27 Z Z (J (E5 Jf T7 Z Z Z) (AD ⟨Z,?_⟩))))))));refine Ab 28 Z Z (V (B3 Z Z Z Z Z Z Z KU) (AD ⟨Z,?_⟩));refine Ab 29 Z Z (AB Z Z (AD ⟨Z,?_⟩));refine Bz (A2 ?_);exact ⟨_,[40,50,51],_,A0 Z,Z,Z,by rw[Y];rfl,Z⟩
  .refine AW (AE (J (Aj Z Z (AN (k+1) (by omega)) Z) (ek Z Z (AD ?_))));exact ⟨k+1,⟨by show k+1<=_;omega,by rw[ψ a];intro e g;rcases ϖ.1 g with g | g;exact t e g;rw[θ.1 g];unfold Ux;rw[w];exact gp (by have h:=A;omega)⟩,by show x.pl.length-(k+1)<x.pl.length-k;omega,AX hF [1,40,50,51] Z (Z) ⟨Z,Z,Z,Z,Z,Z,trivial⟩⟩
 .refine Aw (AC (AC ?_));have R:x.pl.find? (Ux N)=none:=Qr (by have e:k=x.pl.length:=(by have h:=I;omega);rw[e,gy] at t;exact t);refine AE (ek Z Z ?_);refine J (Dh Z Z) (J (Cd Z G2 Z Z Z) (J (Cd Z Dz Z Z Z) (J (EI (f:=40) Z Z (s) Z BH Z) (J (BS Z E0 Z) (ek Z Z (AD (AZ (BM (α:=Nat) (λj=>⟨85,[(0,.d (pD wb 0)),(1,.d (pD (nb i) 0)),(4,(.ptr 1 0 0)),(59,(.d (.sl none (x.it.af.map AF)))),(60,(.d (AF (x.it.af.length:Int)))),(61,(.d (AF (j:Int))))],(1,[.blk 245 [.d (AF 0),.d (AF 0),.d (AF 0),.d (An []),.d (AF 0),.d (An []),.d (An []),.d (An []),.d (AF 0)]])::HW K bs (G4 nb (B8 N)) M⟩) (λj=>j<=x.it.af.length/\∀id∈x.it.af.take j,Dr N id=false) (λj=>x.it.af.length-j) (0) (⟨ζ _,by simp⟩) (AX hF [1,40,50,51] Z Z ⟨Z,Z,Z,Z,Z,Z,trivial⟩) ?_))))))));rintro j ⟨hj0,u⟩;refine AC (AE (J (Az Z Z Z) (AD (AC (A6 Z (λH=>?_) (λH=>?_))))))
  .have v:j<x.it.af.length:=BQ H;refine AW (AC (AZ (AC ?_)));have T:=hxa _ (ϑ v);have c:=kZ T;have S:(B8 N).idxOf x.it.af[j]<N.nd.length:=by unfold B8 at c⊢;rw[χ] at c;exact c
   obtain ⟨z,L⟩:∃z,N.nd[(B8 N).idxOf x.it.af[j]]? =some z:=⟨_,ω S⟩
   have U:N.nd.getD ((B8 N).idxOf x.it.af[j]) CR=z:=by rw[Φ,L];rfl
   obtain ⟨B,_,_⟩:=h.nn _ z L;have X:=SY (nb:=nb) hw.i c;rw[List.getElem_idxOf c] at X;refine AE (J (BC (j) Z Z (Z) (A1 v) E0 Z BW Z) ?_);refine J (CG Z Z Am Z) (AB Z Z (AD (AC (AE (ek Z Z (J (Dh Z Z) (J (Cd Z Nf Z Z Z) (J (EI (f:=40) Z Z (hwb) Z XX Z) ?_))))))));refine Dt 68 51 0 Z Z (ek Z Z (J (IV (G4 nb (B8 N)) x.it.af[j] (.pointer none) (pV (nb ((B8 N).idxOf x.it.af[j])) 0) Z Z Z Xa IS Wm X Z) (J (Dh Z Z) (J (Cd Z FT Z Z Z) (J (EI (f:=40) Z Z (B) Z p8 Z) (J (NE Z Z) (AD (JC Z (λG=>?_) (λG=>?_)))))))))
   .refine AC (AE (ek Z Z (J (Dh Z Z) (J (Cd Z G2 Z Z Z) ?_))));refine J (Cd Z Nr Z Z Z) (J (EI (f:=40) Z Z (s) Z Am Z) (J (E5 KM T6 Z Z Z) (ek Z Z (J (E5 Jf T7 Z Z Z) (V (B3 Z Z Z Z Z Z Z KU) (AB Z Z (AD (A2 ?_))))))));exact ⟨_,[40,50,51],_,A0 Z,Z,Z,by unfold IL;rw[R];dsimp only;rw[Ry v u (by unfold Dr;rw[U];simpa using G)];rfl,Z⟩
   .refine AW (AE (J (Aj Z Z (AN (j+1) (by omega)) Z) (ek Z Z (AD ?_))));exact ⟨j+1,⟨by show j+1<=_;omega,by rw[ψ v];intro e g;rcases ϖ.1 g with g | g;exact u e g;rw[θ.1 g];unfold Dr;rw[U];simpa using G⟩,by show x.it.af.length-(j+1)<x.it.af.length-j;omega,AX hF [1,40,50,51] Z (Z) ⟨Z,Z,Z,Z,Z,Z,trivial⟩⟩
  .refine Aw (AC (AE (J (E5 Jf T7 Z Z Z) (V (B3 Z Z Z Z Z Z Z KU) (AB Z Z (AD (A2 ?_)))))));exact ⟨_,[40,50,51],_,A0 Z,Z,Z,by unfold IL;rw[R];dsimp only;rw[Qr (by have e:j=x.it.af.length:=(by have h:=H;omega);rw[e,gy] at u;exact u)];rfl,Z⟩
abbrev eJ:FuncId:=230
theorem nH(h:Hd)(n:Nat):AP prog 194 [.d (gN h n)] [] λr f=>r= .fn eJ [.d (.ptr (gN h n))]/\f=[]:=by
 refine Av func194 Z Z ntmps194 Z Z Z λF b=>(AC (AE (V (Bh 1 Z Z Z Z Z Z Z) ?_)));refine AB Z Z (AD (AC (AE (Qb 1 1 (gN h n) [] b Z Z Z (by intro c a;simp[D.cells] at a;subst a;rfl) Z Z Z (J (rP Z Z) (AB Z Z (AD (A2 ?_))))))));exact ⟨_,[],[],A0 Z,Z,Z,Z,Z⟩
def Ln(q:List Nat):Nat->List (Nat×Nat)
 | 0=> []
 | c+1=>(c,q.getD c 0)::Ln q c
def eU(nb:Nat->Nat)(e:Nat×Nat):List AV:=[.d (AF (e.1:Int)),.d (B2 (nb e.2))]
section
variable{β:Type}
theorem nI(y:Nat->Nat)(q:List Nat)(T:q.length<=100000){M:MF}{h:Hd}(j:B1 M h 176 1 (q.map λi=>B2 (y i)))(l:Nat)(H:β->Hp)(N:List Nat)(step:β->Nat×Nat->β×Bool)(g:β)(K:∀a,iZ (H a)=N)(Q:∀a,Fv N (H a)=true)(I:∀a,Ba (H a) N=some (H a))(P:∀a,fl (H a) 40=some [.multi M])(A:NH prog l (eU y) H step g (Ln q q.length)):
  AP prog eJ [.d (.raw (DO l)),.d (.ptr (gN h q.length))] (H g) λr G=>r= .tup []/\G=H (IT step g (Ln q q.length)):=by
 have O:=VJ j;have x:∀a,A5 N (H a)=true:=λa=>by have h:=En (H a);rw[K] at h;exact h
 have L:∀a,C5 N (H a)=some []:=λa=>by have h:=QX (H a);rw[K] at h;exact h
 refine Av func230 Z Z ntmps230 Z Z Z λF U=>?_;refine AC (AE (J (CG Z Z HD Z) (J (Wg O Z cj Z) (J (P4 Z Z (Ξ _ (by omega)) Z) (AB Z Z (AD (AZ (Gi (α:=Nat×β) (λp=>⟨19,[(0,.d (.raw (DO l))),(1,.d (.ptr (gN h q.length))),(3,(.d (AF ((p.1:Int)-1))))],H p.2⟩) (λp=>p.1<=q.length/\NH prog l (eU y) H step p.2 (Ln q p.1)/\IT step p.2 (Ln q p.1)=IT step g (Ln q q.length)) (λp=>p.1) ((q.length,g)) (⟨Γ _,A,Z⟩) (aV ⟨Z,Z,Z,trivial⟩) ?_))))))));rintro ⟨c,a⟩ ⟨B,u,b⟩;dsimp only at B u b⊢;refine AC (AC (AE (ek Z Z (J (EN Z Z Z) (AD (A6 Z (λC=>?_) (λC=>?_)))))))
 .obtain ⟨k,rfl⟩:∃k,c=k+1:=⟨c-1,by have h:=C;omega⟩
  refine AW (AC (AZ (AC ?_)));have o:k<q.length:=by omega
  obtain ⟨S,R,w⟩:=VU j o;have t:=Sc j w;have z:((k+1:Nat):Int)-1=(k:Int):=by omega
  rw[z];refine AE (ek Z Z (ek Z Z (J (CG Z Z HD Z) (ek Z Z (J (Wj w (k) Z Z Z o cj Mg Z) (J (nY (f:=40) (e:=k) (off:=0) Z (by omega) (P a) t (A1 o) Z O2 Z) ?_))))));rw[<-FG 0 o];refine Ti Z Z u.1 N (F4 λ_ _=>rfl) (x a) (L a) Z Z (λr G ⟨E,D⟩=>by subst E D;exact ⟨x _,Q _,Z⟩) Z λr G ⟨E,D⟩=>?_;subst E D;rw[iR];refine J (NE Z Z) (AD (JC Z (λv=>?_) (λv=>?_)))
  .have s:(step a (k,q.getD k 0)).2=false:=by simpa using v
   refine A2 ?_;exact ⟨_,N,_,A0 Z,I _,x _,Z,by rw[<-b];show H _=H (IT step a ((k,q.getD k 0)::Ln q k));rw[E1,κ (by rw[s];decide)]⟩
  .have s:(step a (k,q.getD k 0)).2=true:=by simpa using v
   refine AW (AE (ek Z Z (J (P4 Z Z (Ξ _ (by omega)) Z) (AB Z Z (AD ?_)))));exact ⟨(k,(step a (k,q.getD k 0)).1),⟨by show k<=_;omega,u.2 s,by show IT step (step a (k,q.getD k 0)).1 (Ln q k)=_;rw[<-b];show _=IT step a ((k,q.getD k 0)::Ln q k);rw[E1,ς s]⟩,by show k<k+1;omega,⟨Z,Z,λ_ _=>Sd.get (l:=[(0,_),(1,_),(3,_)]) ⟨Z,Z,Z,trivial⟩⟩⟩
 .refine Aw ?_;exact ⟨_,N,_,A0 Z,I _,x _,Z,by rw[<-b];have e:c=0:=(by have h:=C;omega);rw[e];rfl⟩
end
variable{M:MF}
def iD(N:gK)(i:Nat):Bool:=(N.nd.getD i CR).on
def X8(N:gK)(x:Nd):Option Pf:=if x.on=true then IL N x else none
def ZF(N:gK)(y:Po):Option Pf:=if T9 y y.sum=true then (y.q.reverse.find? (iD N)).map λi=>⟨(N.nd.getD i CR).it.id,0,y.r,-1⟩ else none
def Fs(N:gK):Option Pf:=match N.nd.findSome? (X8 N) with
 | some e=>some e
 | none=>N.po.findSome? (ZF N)
theorem In{g c:Type}{f:g->Option c}:∀{l:List g} {k:Nat} (i:k<l.length) {b:c},(∀x∈l.take k,f x=none)->f l[k]=some b->l.findSome? f=some b
 | a::l,0,_,b,_,h=>by simp at h;rw[List.findSome?_cons,h]
 | a::l,k+1,i,b,j,h=>by
  have s:f a=none:=j a (by simp);have o:=In (l:=l) (k:=k) (by simpa using i) (λx r=>j x (by simp[r])) (by simpa using h);rw[List.findSome?_cons,s];exact o
theorem Mu{a b:Type}{f:a->Option b}{l:List a}(h:∀x∈l,f x=none):l.findSome? f=none:=List.findSome?_eq_none_iff.2 h
def pI:Bool->LoopState
 | true=> .done
 | false=> .ready
def sx:Bool->Option Code
 | true=>some .ret
 | false=>none
def I2(N:gK)(_st:Option Nat)(e:Nat×Nat):Option Nat×Bool:=if iD N e.2=true then (some e.2,false) else (none,true)
theorem eH(N:gK)(q:List Nat):∀n,n<=q.length->IT (I2 N) none (Ln q n)=((q.take n).reverse.find? (iD N))
 | 0,_=>rfl
 | n+1,h=>by
  have a:n<q.length:=by omega
  show IT (I2 N) none ((n,q.getD n 0)::Ln q n)=_;rw[E1,ψ a,List.reverse_append,List.reverse_singleton,List.singleton_append,List.find?_cons,FG 0 a];unfold I2;dsimp only
  cases ho:iD N q[n] with
  | true=>rfl
  | false=>exact eH N q n (by omega)
theorem Xw{P:Program}{l:Nat}{c:Nat->Nat}{H:Option Nat->Hp}(N:gK)(q:List Nat)(g:∀k (s:k<q.length),Gk P l (eU c (k,q[k])) (H none) λv i=>v= .d (.raw (.bool (!iD N q[k])))/\i=H (if iD N q[k]=true then some q[k] else none)):∀n,n<=q.length->NH P l (eU c) H (I2 N) none (Ln q n)
 | 0,_=>trivial
 | n+1,h=>by
  have f:n<q.length:=by omega
  have j:=g n f;show NH P l (eU c) H (I2 N) none ((n,q.getD n 0)::Ln q n);rw[FG 0 f];refine ⟨j.mono λv i ⟨r,o⟩=>⟨by rw[r];unfold I2;cases iD N q[n]<;>rfl,by rw[o];unfold I2;cases iD N q[n]<;>rfl⟩,λa=>?_⟩
  have b:iD N q[n]=false:=by
   cases ho:iD N q[n] with
   | false=>rfl
   | true=>unfold I2 at a;dsimp only at a;rw[ho] at a;cases a
  have:(I2 N none (n,q[n])).1=none:=by unfold I2;dsimp only;rw[b];rfl
  rw[this];exact Xw N q g n (by omega)
abbrev qk(e:Pf):AM:= .blk 245 [.d (AF e.id),.d (AF e.re),.d (AF e.r.k),.d (An e.r.acc.o),.d (AF e.r.acc.k),.d (An e.r.acc.a),.d (An e.r.f),.d (An e.r.t),.d (AF e.by_)]
def tl(N:gK)(y:Po)(o:Option Nat):Pf:=match o with
 | none=>mS
 | some i=>⟨(N.nd.getD i CR).it.id,0,y.r,-1⟩
abbrev uN(N:gK)(y:Po)(pbk mv:Nat)(bs:Option (List Nat×Nat))(L:List (Int×Value))(M:MF)(o:Option Nat):Hp:=[(1,[qk (tl N y o)]),(2,[.blk 4 [.d (Ah o.isSome)]]),(4,[.blk 186 [.d (B2 pbk)]]),(40,[.multi M]),(50,[.map bs (B4 AF Ls L)]),(51,[.addr 50 0 (.map (some mv))])]
theorem pv{wb H:Nat}{nb pb:Nat->Nat}{N:gK}(O:Option (List Nat×Nat))(h:CX wb H nb pb N M)(hw:i6 N)(hs:Ss N.po 1000000000000000000):
  AP prog 139 [.d (pD wb 0)] (HW H O (G4 nb (B8 N)) M) λr H'=>r= .d (tm (Fs N))/\H'=HW H O (G4 nb (B8 N)) M:=by
 have hwb:=h.w;have T:B1 M N.nh 176 1 ((List.range N.nd.length).map λi=>B2 (nb i)):=h.rs.1 .n;have S:B1 M N.mh 186 1 ((List.range N.po.length).map λj=>B2 (pb j)):=h.rs.1 .m;have hnz:=VJ T;have hpz:=VJ S;rw[iF] at hnz hpz;have hnl:=hw.n
 obtain ⟨L,hL⟩:∃L,G4 nb (B8 N)=L:=⟨_,Z⟩
 have I:=λi x G=>mA (i:=i) (x:=x) O h hw G;rw[hL] at I⊢;refine P2 func139 Z Z ntmps139 Z Z Z λF K hFl=>(AC (AE (V (Bx 1 Jf Z Z Z Z) (V (Bx 2 v9 Z Z Z Z) (AD (AC (AC (AE ?_))))))));refine ek Z Z (J (Dh Z Z) (J (Cd Z JX Z Z Z) (J (EI (f:=40) Z Z (hwb) Z HD Z) (J (Wg hnz Z cj Z) (ek Z Z (AD (AZ (BM (α:=Nat) (λk=>⟨74,[(0,.d (pD wb 0)),(2,(.ptr 1 0 0)),(3,(.ptr 2 0 0)),(15,(.d (gN N.nh N.nd.length))),(16,(.d (AF (N.nd.length:Int)))),(17,(.d (AF (k:Int))))],(1,[qk mS])::(2,[.blk 4 [.d (Ah false)]])::HW H O L M⟩) (λk=>k<=N.nd.length/\∀x∈N.nd.take k,X8 N x=none) (λk=>N.nd.length-k) (0) (⟨ζ _,by simp⟩) (AX K [1,2,40,50,51] Z Z ⟨Z,Z,Z,Z,Z,Z,trivial⟩) ?_))))))));rintro k ⟨hk0,w⟩;refine AC (AE (J (Az Z Z Z) (AD (AC (A6 Z (λY=>?_) (λY=>?_))))))
 .have g:k<N.nd.length:=BQ Y;refine AW (AC (AZ (AC ?_)))
  obtain ⟨x,G⟩:∃x,N.nd[k]? =some x:=⟨_,ω g⟩
  have R:N.nd[k]=x:=by rw[ω g] at G;injection G
  obtain ⟨E,_,_⟩:=h.nn k x G;obtain ⟨rb,rc,u⟩:=VU T (j:=k) (by rw[iF];exact g);have t:=Sc T u;refine AE (J (Wj u (k) Z Z Z g cj Mg Z) (J (nY (f:=40) (e:=k) (off:=0) Z (by omega) Z (t) ((by rw[ν,j1 g];rfl)) Z O2 Z) ?_));refine AB Z Z (AD (AC ?_));refine AC (AE (ek Z Z (J (Dh Z Z) (J (Cd Z FT Z Z Z) (J (EI (f:=40) Z Z (E) Z p8 Z) (J (NE Z Z) (AD (JC Z (λX=>?_) (λX=>?_)))))))))
  .have c:X8 N x=none:=by unfold X8;rw[κ (by simpa using X)]
   refine Aw ?_
   try have c:X8 N x=none:=by unfold X8;split<;>first | exact hin | rfl
   refine AE (J (Aj Z Z (AN (k+1) (by omega)) Z) (ek Z Z (AD ?_)));exact ⟨k+1,⟨by show k+1<=_;omega,by rw[ψ g];intro e a;rcases ϖ.1 a with a | a;exact w e a;rw[θ.1 a,R];exact c⟩,by show N.nd.length-(k+1)<N.nd.length-k;omega,AX K [1,2,40,50,51] Z (Z) ⟨Z,Z,Z,Z,Z,Z,trivial⟩⟩
  .refine AW (AC (AE (ek Z Z (ek Z Z (V (FH (I k x G) Z [40,50,51] ⟨Z,Z,Z,trivial⟩ Z Z Z Z Z Z Z Z Z) ?_)))));refine ek Z Z (J (De Z Z Z) (J (De Z Z Z) (V (Bx 3 Jf Z Z Z Z) (V (B3 Z Z Z Z Z Z Z KU) (AB Z Z (AD (AC (AE ?_))))))))
   cases hin:IL N x
   .refine ek Z Z (AD (Cr Z (Z) (AW ?_)))
    try have c:X8 N x=none:=by unfold X8;split<;>first | exact hin | rfl
    refine AE (J (Aj Z Z (AN (k+1) (by omega)) Z) (ek Z Z (AD ?_)));exact ⟨k+1,⟨by show k+1<=_;omega,by rw[ψ g];intro e a;rcases ϖ.1 a with a | a;exact w e a;rw[θ.1 a,R];exact c⟩,by show N.nd.length-(k+1)<N.nd.length-k;omega,AX K [1,2,40,50,51] Z (Z) ⟨Z,Z,Z,Z,Z,Z,trivial⟩⟩
   .refine ek Z Z ?_;refine AD (Bw Z (Z) (AC (AE (J (Ay Z Z oE Z Z Z) (V (B3 Z Z Z Z Z Z Z KU) (V (B3 Z Z Z Z Z Z Z sO) (AD (A2 ?_))))))));exact ⟨_,[40,50,51],_,A0 Z,Z,Z,by unfold Fs;rw[In g w (by rw[R];unfold X8;rw[ς (by simpa using X)];exact hin)];rfl,Z⟩
 .refine Aw (AC (AC ?_));have hnn:N.nd.findSome? (X8 N)=none:=Mu (by have e:k=N.nd.length:=(by have h:=Y;omega);rw[e,gy] at w;exact w);refine AE ?_;refine ek Z Z (J (Dh Z Z) (J (Cd Z LM Z Z Z) (J (EI (f:=40) Z Z (hwb) Z XY Z) (J (Wg hpz Z underlying177 Z) (ek Z Z (AD (AZ (BM (α:=Nat) (λj=>⟨74,[(2,(.ptr 1 0 0)),(3,(.ptr 2 0 0)),(38,(.d (gN N.mh N.po.length))),(39,(.d (AF (N.po.length:Int)))),(40,(.d (AF (j:Int))))],(1,[qk mS])::(2,[.blk 4 [.d (Ah false)]])::HW H O L M⟩) (λj=>j<=N.po.length/\∀y∈N.po.take j,ZF N y=none) (λj=>N.po.length-j) (0) (⟨ζ _,by simp⟩) (AX K [1,2,40,50,51] Z Z ⟨Z,Z,Z,Z,Z,trivial⟩) ?_))))))));rintro j ⟨hj0,z⟩;refine AC (AE (J (Az Z Z Z) (AD (AC (A6 Z (λW=>?_) (λW=>?_))))))
  .have s:j<N.po.length:=BQ W;refine AW (AC (AZ (AC ?_)))
   obtain ⟨y,hy⟩:∃y,N.po[j]? =some y:=⟨_,ω s⟩
   have P:N.po[j]=y:=by rw[ω s] at hy;injection hy
   have C:=ξ hy;obtain ⟨Q,hyq⟩:=h.pp j y hy;obtain ⟨rb,rc,u⟩:=VU S (j:=j) (by rw[iF];exact s);have t:=Sc S u;have hys:=hs y C;have hov:=Mm h hy y.sum (hw.rm y C) (by omega);have hql:=hw.ql y C;refine AE (J (Wj u (j) Z Z Z s underlying177 bD Z) (J (nY (f:=40) (e:=j) (off:=0) Z (by omega) Z (t) ((by rw[ν,j1 s];rfl)) Z FE Z) ?_));refine V (Bx 4 ry Z Z Z Z) (V (B3 Z Z Z Z Z Z Z bD) (AD (AC (AC (CK [[],[],[1],[1,2],[1,2,3],rg 5,rg 6] mixed Z (By ?_))))));refine Aq [9] [4] Z Z (λ_=>Aa (AO Z Z Z FE Z)) (Aq [9] [4] Z Z (λ_=>Aa (AO Z Z Z FE Z)) (AR [45] Z (Dh Z Z) (AR [46] Z (Cd Z LJ Z Z Z) (Aq [47] [40] Z Z (λ_=>Aa (EI (f:=40) Z Z (Q) Z Fo Z)) (Bu 5 Z Z Z (Ab 6 Z Z (V (FH hov Z [40] ⟨Z,trivial⟩ Z Z Z Z Z Z Z Z Z) (AD ⟨Z,?_⟩))))))));refine Ab 7 Z Z ?_
   cases hovy:T9 y y.sum
   .refine J (NE Z Z) (AD ⟨Z,?_⟩);refine Bz (Bw Z (Z) (Aw ?_));have b:ZF N y=none:=by unfold ZF;first | (rw[κ (by rw[hovy];decide)]) | (rw[ς hovy,<-ho];rfl)
    refine AE (J (Aj Z Z (AN (j+1) (by omega)) Z) (ek Z Z (AD ?_)));exact ⟨j+1,⟨by show j+1<=_;omega,by rw[ψ s];intro e a;rcases ϖ.1 a with a | a;exact z e a;rw[θ.1 a,P];exact b⟩,by show N.po.length-(j+1)<N.po.length-j;omega,AX K [1,2,40,50,51] Z (Z) ⟨Z,Z,Z,Z,Z,trivial⟩⟩
   .refine J (NE Z Z) (AD ⟨Z,?_⟩);refine Bz (Cr Z (Z) (AW ?_));refine AC (AE (J (AO Z Z Z FE Z) (J (Dh Z Z) (J (Cd Z Hw Z Z Z) (J (EI (f:=40) Z Z (Q) Z HD Z) (V (FH (nH y.qh y.q.length) Z [] trivial Z Z Z Z Z Z Z Z Z) (AD (AZ ?_))))))));refine fh [2,3,9,38,39,40,55] Z ?_;refine YN (γ:=Option Nat) hFl 900 Z Z Z Z Z [1,2,4,40,50,51] (CHr:=uN N y (pb j) H O L M none) (λo=>o=y.q.reverse.find? (iD N)) (λo=>uN N y (pb j) H O L M o) (λo=>pI o.isSome) (λo=>sx o.isSome) ⟨Z,Z,Z,Z,Z,Z,trivial⟩ Z Z Z (λ_=>rfl) (λ_=>rfl) Z (λo _=>by cases o<;>simp[pI]) (λ_ _=>⟨Z,Z⟩) [1,2,4,40,50,51] K Z Z (λ_ _=>rfl) (λl A B hA hB=>?_) (λo ho=>?_)
    .refine (nI nb y.q (by omega) hyq l (λo:Option Nat=>(900,[.loop ⟨l,74,[(2,.ptr 1 0 0),(3,.ptr 2 0 0),(9,.ptr 4 0 0),(38,.d (gN N.mh N.po.length)),(39,.d (AF (N.po.length:Int))),(40,.d (AF (j:Int))),(55,.fn eJ [.d (.ptr (gN y.qh y.q.length))])],pI o.isSome,sx o.isSome, #[56,57],A,B⟩])::uN N y (pb j) H O L M o) [900,1,2,4,40,50,51] (I2 N) none (λ_=>rfl) (λ_=>rfl) (λ_=>rfl) (λ_=>rfl) ?_).mono (λr H' ⟨e1,e2⟩=>⟨e1,_,Z,by rw[e2,eH N y.q y.q.length (Γ _),gy]⟩);refine Xw N y.q (λk2 hk2=>?_) y.q.length (Γ _);have hni:y.q[k2]<N.nd.length:=h.q y C _ (ϑ hk2)
     obtain ⟨x,G⟩:∃x,N.nd[y.q[k2]]? =some x:=⟨_,ω hni⟩
     obtain ⟨E,_,_⟩:=h.nn _ x G;have hgx:N.nd.getD y.q[k2] CR=x:=by rw[Φ,G];rfl
     have hon:iD N y.q[k2]=x.on:=by unfold iD;rw[hgx]
     refine Si (lf:=900) Z Z Z Z λF K hr=>(CD.code hA (AE (AB Z Z (AD (⟨Z,_,_,Z,Z,Z,Z,?_⟩)))));refine CD.code hB ?_;refine AZ (AC (AE (ek Z Z (J (Dh Z Z) (J (Cd Z FT Z Z Z) (J (EI (f:=40) Z Z (E) Z p8 Z) (AD (JC Z (λU=>?_) (λU=>?_)))))))))
     .refine AC (CK [[],[0],[0,1],[0,1,2],[0,1,2,3],[],[5],[5,6],[5,6,7],rg 9,rg 10,rg 11] mixed Z (By (Ap 11 Z Z (AR [62] Z (Dh Z Z) (AR [63] Z (Cd Z G2 Z Z Z) (AR [64] Z (Cd Z Nr Z Z Z) ?_))))));refine Aq [65] [40] Z Z (λ_=>Aa (EI (f:=40) Z Z (E) Z Am Z)) (Aq [9] [4] Z Z (λ_=>Aa (AO Z Z Z FE Z)) (AR [67] Z (Dh Z Z) (AR [68] Z (Cd Z Nc Z Z Z) (Aq [69] [40] Z Z (λ_=>Aa (D3 (f:=40) Z Z (Q) C9 Z Z (by simp[D.one]) Z)) (Bu 9 Z Z Z (Ab 10 Z Z (J (E5 Jf T7 Z Z Z) (AD ⟨Z,?_⟩))))))));refine Ab 11 Z Z (V (B3 Z Z Z Z Z Z Z KU) (AD ⟨Z,?_⟩));refine Ab 12 Z Z (V (B3 Z Z Z Z Z Z Z sO) (AD ⟨Z,?_⟩));refine Bz (A2 ?_);have v:iD N y.q[k2]=true:=by rw[hon];simpa using U
      exact ⟨some .ret,_,_,[900,1,2,4,40,50,51],_,Z,Z,Z,Z,Z,Z,by rw[v];rfl,by rw[ς v];simp only[uN,tl,hgx];rfl⟩
     .refine AW ?_;have v:iD N y.q[k2]=false:=by rw[hon];simpa using U
      exact ⟨none,_,_,[900,1,2,4,40,50,51],_,Z,Z,Z,Z,Z,Z,by rw[v];rfl,by rw[κ (by rw[v];decide)];rfl⟩
    .rcases o with _ | i0
     .have b:ZF N y=none:=by unfold ZF;first | (rw[κ (by rw[hovy];decide)]) | (rw[ς hovy,<-ho];rfl)
      refine AE (J (Aj Z Z (AN (j+1) (by omega)) Z) (ek Z Z (AD ?_)));exact ⟨j+1,⟨by show j+1<=_;omega,by rw[ψ s];intro e a;rcases ϖ.1 a with a | a;exact z e a;rw[θ.1 a,P];exact b⟩,by show N.po.length-(j+1)<N.po.length-j;omega,AX K [1,2,40,50,51] Z (Z) ⟨Z,Z,Z,Z,Z,trivial⟩⟩
     .show CD _ _ .ret _ _;refine A2 ?_;exact ⟨_,[40,50,51],_,A0 Z,Z,Z,by unfold Fs;rw[hnn];dsimp only;rw[In s z (by rw[P];unfold ZF;rw[ς hovy,<-ho];rfl)];rfl,Z⟩
  .refine Aw (AC (AE (J (E5 Jf T7 Z Z Z) (V (B3 Z Z Z Z Z Z Z KU) (V (B3 Z Z Z Z Z Z Z sO) (AD (A2 ?_)))))));exact ⟨_,[40,50,51],_,A0 Z,Z,Z,by unfold Fs;rw[hnn];dsimp only;rw[Mu (by have e:j=N.po.length:=(by have h:=W;omega);rw[e,gy] at z;exact z)];rfl,Z⟩
theorem SR.splitH{F:Fr}{s:AS}{L:Nat->Nat->Value}{k:Act}{w:World}(l:SR F s L k w)(t g f:Nat){T:TypeId}{A m:Nat}{h:Hd}{I:List D}{u:List (Nat×AV)}{c hp':Hp}(C:Nat.beq g f=false)(B:get s.env t=some (.d (gN h m)))(Y:m=I.length)(hM:fl s.hp f=some [.multi M])(j:B1 M h T A I)(hE:A9 g s.env=some u)(J:A8 g s.hp=some c)(R:fl c g=none)(E:Bn c f (Bi M h)=some hp'):
  ∃v,SR F ⟨s.n,(t,.own g 0 m)::u,(g,[.rowD T A I])::hp'⟩ (upd L g 0 v) k w:=by
 match h,B,j,E with
 | some (b,cap),B,j,E=>exact ⟨_,l.splitR t g f (cap:=cap) (b:=b) C B Y hM j.2 hE J R E⟩
 | none,B,j,E=>
  have S:I=[]:=j;subst S Y;have hgf:g≠f:=jF C;refine ⟨.slice none 0 0,?_⟩
  have V:hp'=c:=by
   have P:∀(H z:Hp),fl H f=some [.multi M]->Bn H f M=some z->z=H:=by
    intro H
    induction H with
    | nil=>intro z h;cases h
    | cons p r ih=>
     grind[fl,Bn]
   obtain ⟨a1,a2⟩:=BD J
   have W:fl c f=some [.multi M]:=by
    have X:∀(H z:Hp),CT (Bl g) H=some z->fl H f=some [.multi M]->fl z f=some [.multi M]:=by
     intro H
     induction H with
     | nil=>intro z _ h;cases h
     | cons p r ih=>
      grind[CT,Ed,fl,CS]
    grind
   exact P c hp' W E
  rw[V]
  have h1:SR F ⟨s.n,(t,.d (.sl (some true) []))::s.env,s.hp⟩ L k w:=⟨l.size,l.defs,λN a y=>by
   rcases Mc y with ⟨rfl,rfl⟩ | ⟨_,y⟩
   .have j:=l.env t _ B
    generalize k.tmps.getD t undef=x at j⊢
    cases j with
    | d h=>cases h with
     | raw _=>exact .d (.sl 0 (λb G=>by cases G;rfl) (λ_=>rfl) Z (Γ _) (ζ _) (λx U=>by cases U) (λh=>absurd Z h) (λb o G=>by cases G))
   .exact l.env N a y,l.heap⟩
  obtain ⟨k1,k2⟩:=BD J
  have Q:∀i,ey s.hp g i=none:=λi=>by
   cases hq:ey s.hp g i with
   | none=>rfl
   | some o=>
    obtain ⟨o2,O,_⟩:=k2 _ _ _ hq;unfold ey at O;rw[R] at O;cases O
  have K:=l.set g 0 (.rowD T A []) (.slice none 0 0) (hp':=(g,[.rowD T A []])::c) hE J (λf' i=>by
   by_cases e:g=f'
   .subst e;simp only[ey,fl,ic,jb,true_and,MM (o:= .rowD T A []) Z,R,Option.bind_none]
    cases i<;>simp
   .simp only[ey,fl,IU e]
    rw[κ (λhh=>e hh.1.symm)]) (λt cs e=>by rw[Q] at e;cases e) (λb G=>by cases G) Z Z Z (Γ _) (λ_ _ _=>rfl) (λ_=>⟨[],World.ownsRow_nil w 0 T A,⟨by simp,by simp,λi x U=>by simp at U⟩,by simp⟩)
  refine ⟨K.size,K.defs,λN a y=>?_,K.heap⟩;rcases Mc y with ⟨rfl,rfl⟩ | ⟨_,y⟩
  .have j:=l.env t _ B
   generalize k.tmps.getD t undef=x at j⊢
   cases j with
   | d h=>cases h with | raw _=>exact .own QE (Γ _)
  .exact K.env N a y
section
variable{P:Program}{F:Fr}{Q:Exit->AS->Prop}{c:Code}{ops:Array Oper}{l:List Oper}{n:Nat}{env env1 env':List (Nat×AV)}{hp hp1 hp2 hp3:Hp}
theorem H7{o:Oper}(t g f:Nat){M:MF}{T:TypeId}{y m:Nat}{h:Hd}{r:List D}{b:Hp}{x:AS}(C:B1 M h T y r)(s:Nat.beq g f=false)(A:get env t=some (.d (gN h m)))(E:m=r.length)(H:fl hp f=some [.multi M])(J:A9 g env=some env')(I:A8 g hp=some hp1)(z:fl hp1 g=none)(G:Bn hp1 f (Bi M h)=some b)(N:AG P F o ⟨n,(t,.own g 0 m)::env',(g,[.rowD T y r])::b⟩ x (Bl g)):AG P F o ⟨n,env,hp⟩ x (Bl g):=λR u w B=>by
 obtain ⟨v,O⟩:=B.splitH t g f s A E H C J I z G;exact nZ (λa S ⟨k,L,K⟩=>⟨k,L,λf i j=>(K f i j).trans (Nq λe=>S3 j e.1)⟩) (N _ u w O)
end
variable{a c:Nat->Nat}{N:gK}{M:MF}{f g i h:Nat}{x:Nd}{j:List D}{t:TypeId}{k o s:Nat}{y:Po}{u:Al}{w:MF}
theorem CX.row{N':gK}(i:CX f g c a N M)(k:RI){w0 w1:gQ}(B:Ce c a N k=w0)(A:Ce c a N' k=w1)(y:∀r,r≠k->Ce c a N' r=Ce c a N r)(u:Bi M w0.h h=none)(z:w1.h=some (h,o))(w:w1.xs.length<=o):
  FJ (B5 (Bi M w0.h) h (.row w1.t w1.k o w1.xs)) (Ce c a N')/\∀(s:Nat) (t:TypeId) (l:List D),M s=some (.cells t l)->B5 (Bi M w0.h) h (.row w1.t w1.k o w1.xs) s=some (.cells t l):=by
 subst B A;refine ⟨i.rs.upd k y u z w,λs t l v=>im u v λj x=>?_⟩;have:=i.rs.blk x
 grind
theorem CX.putNd(h:CX f g c a N M){l:Nd}(C:N.nd[i]? =some x)(E:∀(F:Nat) (t:TypeId) (s:List D),M F=some (.cells t s)->w F=some (.cells t s))(G:FJ w (Ce c a {N with nd:=N.nd.set i l}))(J:(∀e∈l.ef,e.1<N.po.length)/\∀e∈l.pl,e.1<N.po.length):
  CX f g c a {N with nd:=N.nd.set i l} (B5 w (c i) (VP l)):=by
 have K:=h.n i x C;have B:=(φ.1 C).1
 have u:∀(b:Nat) (t:TypeId) (s:List D),t≠184->M b=some (.cells t s)->B5 w (c i) (VP l) b=some (.cells t s):=λb t s O P=>by
  grind[ID]
 refine ⟨λj z r=>?_,λj y v=>u _ _ _ (by decide) (h.p j y v),G.cells (E _ _ _ K),?_,λj k I H=>h.ni j k (by simpa using I) (by simpa using H),h.pi,λz r=>?_,λy v=>?_⟩
 .have o:(N.nd.set i l)[j]? =some z:=r
  clear r
  have A:j<N.nd.length:=by have:=(φ.1 o).1;rw[iB] at this;exact this
  rw[kB] at o
  split at o
  .grind[GG]
  .rename_i e
   rw[ID]
   .exact E _ _ _ (h.n j z o)
   .intro L;exact e (h.ni j i A B L).symm
 .show B5 w (c i) (VP l) f=some (.cells _ [gN N.nh (N.nd.set i l).length,gN N.mh N.po.length,_]);rw[iB];exact u _ _ _ (by decide) h.w
 .rcases kA r with r | rfl
  .exact h.e z r
  .exact J
 .have:=h.q y v
  simpa using this
theorem CX.putPo(h:CX f g c a N M){r:Po}(E:N.po[k]? =some y)(F:∀(G:Nat) (t:TypeId) (u:List D),M G=some (.cells t u)->w G=some (.cells t u))(H:FJ w (Ce c a {N with po:=N.po.set k r}))(I:∀i∈r.q,i<N.nd.length):
  CX f g c a {N with po:=N.po.set k r} (B5 w (a k) (VO r)):=by
 have L:=h.p k y E;have B:=(φ.1 E).1
 have v:∀(b:Nat) (t:TypeId) (u:List D),t≠190->M b=some (.cells t u)->B5 w (a k) (VO r) b=some (.cells t u):=λb t u P Q=>by
  grind[ID]
 refine ⟨λi x A=>v _ _ _ (by decide) (h.n i x A),λi z s=>?_,H.cells (F _ _ _ L),?_,h.ni,λi l K J=>h.pi i l (by simpa using K) (by simpa using J),λx A=>?_,λz s=>?_⟩
 .have o:(N.po.set k r)[i]? =some z:=s
  clear s
  have C:i<N.po.length:=by have:=(φ.1 o).1;rw[iB] at this;exact this
  rw[kB] at o
  split at o
  .grind[GG]
  .rename_i e
   rw[ID]
   .exact F _ _ _ (h.p i z o)
   .intro O;exact e (h.pi i k C B O).symm
 .show B5 w (a k) (VO r) f=some (.cells _ [gN N.nh N.nd.length,gN N.mh (N.po.set k r).length,_]);rw[iB];exact v _ _ _ (by decide) h.w
 .have:=h.e x A
  simpa using this
 .rcases kA s with s | rfl
  .exact h.q z s
  .exact I
abbrev qm:TypeId:=188
abbrev pU:TypeId:=254
abbrev cO:TypeId:=176
abbrev XK:TypeId:=186
def GF(x:Nd)(b cap:Nat)(e:Nat×Int):Nd:={x with eh:=some (b,cap),ef:=x.ef++ [e]}
def JB(x:Nd)(b cap:Nat)(e:Nat×Nat):Nd:={x with ph:=some (b,cap),pl:=x.pl++ [e]}
def L3(y:Po)(b cap:Nat)(i:Nat):Po:={y with qh:=some (b,cap),q:=y.q++ [i]}
theorem CX.addE(l:CX f g c a N M)(t:N.nd[i]? =some x)(e:Nat×Int)(y:e.1<N.po.length)(A:Bi M x.eh h=none)(w:((x.ef++ [e]).map (eW a)).length<=o):
  CX f g c a {N with nd:=N.nd.set i (GF x h o e)} (B5 (B5 (Bi M x.eh) h (.row qm 2 o ((x.ef++ [e]).map (eW a)))) (c i) (VP (GF x h o e))):=by
 have s:=(φ.1 t).1
 obtain ⟨C,B⟩:=l.row (N':={N with nd:=N.nd.set i (GF x h o e)}) (.e i) (w0:=⟨x.eh,qm,2,x.ef.map (eW a)⟩) (w1:=⟨some (h,o),qm,2,(x.ef++ [e]).map (eW a)⟩)
  (by show (⟨(N.nd.getD i CR).eh,_,_,(N.nd.getD i CR).ef.map _⟩:gQ)=_;rw[Hq t])
  (by show (⟨((N.nd.set i (GF x h o e)).getD i CR).eh,_,_,((N.nd.set i (GF x h o e)).getD i CR).ef.map _⟩:gQ)=_;rw[Er s,ς rfl];rfl)
  (λr v=>by
   cases r with
   | q j=>rfl
   | m=>rfl
   | n=>show (⟨_,_,_,(List.range (N.nd.set i (GF x h o e)).length).map _⟩:gQ)=_;rw[iB];rfl
   | e k=>
    show (⟨((N.nd.set i (GF x h o e)).getD k CR).eh,_,_,((N.nd.set i (GF x h o e)).getD k CR).ef.map _⟩:gQ)=⟨(N.nd.getD k CR).eh,_,_,(N.nd.getD k CR).ef.map _⟩
    rw[Er s,κ (λe=>v (by rw[e]))]
   | p k=>
    show (⟨((N.nd.set i (GF x h o e)).getD k CR).ph,_,_,((N.nd.set i (GF x h o e)).getD k CR).pl.map _⟩:gQ)=⟨(N.nd.getD k CR).ph,_,_,(N.nd.getD k CR).pl.map _⟩
    rw[Er s,Qp t k CR]
    split<;>rfl) A Z w
 refine l.putNd t B C ⟨λz u=>?_,(l.e x (ξ t)).2⟩;rcases ϖ.1 u with u | u
 .exact (l.e x (ξ t)).1 z u
 .rw[θ.1 u];exact y
theorem CX.addP(l:CX f g c a N M)(t:N.nd[i]? =some x)(e:Nat×Nat)(y:e.1<N.po.length)(A:Bi M x.ph h=none)(w:((x.pl++ [e]).map (kN a)).length<=o):
  CX f g c a {N with nd:=N.nd.set i (JB x h o e)} (B5 (B5 (Bi M x.ph) h (.row pU 2 o ((x.pl++ [e]).map (kN a)))) (c i) (VP (JB x h o e))):=by
 have s:=(φ.1 t).1
 obtain ⟨C,B⟩:=l.row (N':={N with nd:=N.nd.set i (JB x h o e)}) (.p i) (w0:=⟨x.ph,pU,2,x.pl.map (kN a)⟩) (w1:=⟨some (h,o),pU,2,(x.pl++ [e]).map (kN a)⟩)
  (by show (⟨(N.nd.getD i CR).ph,_,_,(N.nd.getD i CR).pl.map _⟩:gQ)=_;rw[Hq t])
  (by show (⟨((N.nd.set i (JB x h o e)).getD i CR).ph,_,_,((N.nd.set i (JB x h o e)).getD i CR).pl.map _⟩:gQ)=_;rw[Er s,ς rfl];rfl)
  (λr v=>by
   cases r with
   | q j=>rfl
   | m=>rfl
   | n=>show (⟨_,_,_,(List.range (N.nd.set i (JB x h o e)).length).map _⟩:gQ)=_;rw[iB];rfl
   | p k=>
    show (⟨((N.nd.set i (JB x h o e)).getD k CR).ph,_,_,((N.nd.set i (JB x h o e)).getD k CR).pl.map _⟩:gQ)=⟨(N.nd.getD k CR).ph,_,_,(N.nd.getD k CR).pl.map _⟩
    rw[Er s,κ (λe=>v (by rw[e]))]
   | e k=>
    show (⟨((N.nd.set i (JB x h o e)).getD k CR).eh,_,_,((N.nd.set i (JB x h o e)).getD k CR).ef.map _⟩:gQ)=⟨(N.nd.getD k CR).eh,_,_,(N.nd.getD k CR).ef.map _⟩
    rw[Er s,Qp t k CR]
    split<;>rfl) A Z w
 refine l.putNd t B C ⟨(l.e x (ξ t)).1,λz u=>?_⟩;rcases ϖ.1 u with u | u
 .exact (l.e x (ξ t)).2 z u
 .rw[θ.1 u];exact y
theorem CX.addQ(s:CX f g c a N M)(v:N.po[k]? =some y){i:Nat}(A:i<N.nd.length)(B:Bi M y.qh h=none)(x:((y.q++ [i]).map λi=>B2 (c i)).length<=o):
  CX f g c a {N with po:=N.po.set k (L3 y h o i)} (B5 (B5 (Bi M y.qh) h (.row cO 1 o ((y.q++ [i]).map λi=>B2 (c i)))) (a k) (VO (L3 y h o i))):=by
 have u:=(φ.1 v).1
 obtain ⟨D,C⟩:=s.row (N':={N with po:=N.po.set k (L3 y h o i)}) (.q k) (w0:=⟨y.qh,cO,1,y.q.map λi=>B2 (c i)⟩) (w1:=⟨some (h,o),cO,1,(y.q++ [i]).map λi=>B2 (c i)⟩)
  (by show (⟨(N.po.getD k Cj).qh,_,_,(N.po.getD k Cj).q.map _⟩:gQ)=_;rw[Hq v])
  (by show (⟨((N.po.set k (L3 y h o i)).getD k Cj).qh,_,_,((N.po.set k (L3 y h o i)).getD k Cj).q.map _⟩:gQ)=_;rw[Er u,ς rfl];rfl)
  (λr w=>by
   cases r with
   | e l=>rfl
   | p l=>rfl
   | n=>rfl
   | m=>show (⟨_,_,_,(List.range (N.po.set k (L3 y h o i)).length).map _⟩:gQ)=_;rw[iB];rfl
   | q l=>
    show (⟨((N.po.set k (L3 y h o i)).getD l Cj).qh,_,_,((N.po.set k (L3 y h o i)).getD l Cj).q.map _⟩:gQ)=⟨(N.po.getD l Cj).qh,_,_,(N.po.getD l Cj).q.map _⟩
    rw[Er u,κ (λe=>w (by rw[e]))]) B Z x
 refine s.putPo v C D λz t=>?_;rcases ϖ.1 t with t | t
 .exact s.q y (ξ v) z t
 .rw[θ.1 t];exact A
def FD(x:Nd):Nd:={x with eh:=none,ph:=none}
def Cg(y:Po):Po:={y with qh:=none}
def BL(N:gK):gK:=⟨N.nd.map FD,N.po.map Cg,none,none⟩
def qQ(x:Nd)(j:Nat)(n:Nat)(a:Int):Nd:={x with ef:=x.ef++ [(j,a)],pl:=if a<0 then x.pl++ [(j,n)] else x.pl}
def qP(y:Po)(i:Nat)(a:Int):Po:={y with sum:=y.sum+a,q:=if a<0 then y.q++ [i] else y.q}
theorem CX.keepE(k:CX f g c a N M)(r:N.nd[i]? =some x)(y:Bi M x.eh h=none)(o:M s=some (.cells t j)):B5 (Bi M x.eh) h u s=some (.cells t j):=
 im y o λl w=>by have:=Sc (k.nn i x r).2.1 w;rw[o] at this;cases this
theorem CX.keepP(k:CX f g c a N M)(r:N.nd[i]? =some x)(y:Bi M x.ph h=none)(o:M s=some (.cells t j)):B5 (Bi M x.ph) h u s=some (.cells t j):=
 im y o λl w=>by have:=Sc (k.nn i x r).2.2 w;rw[o] at this;cases this
theorem CX.keepQ(i:CX f g c a N M)(r:N.po[k]? =some y)(x:Bi M y.qh h=none)(o:M s=some (.cells t j)):B5 (Bi M y.qh) h u s=some (.cells t j):=
 im x o λl w=>by have:=Sc (i.pp k y r).2 w;rw[o] at this;cases this
theorem qN{Y mv:Nat}{L v:Nat->Nat}{N:gK}{M:MF}(h:CX Y mv L v N M){i j:Nat}{x:Nd}{y:Po}(u:N.nd[i]? =some x)(O:N.po[j]? =some y)(a:Int)(ha: -100000000000000000<=a/\a<=100000000000000000)(hs: -1000000000000000000<=y.sum/\y.sum<=1000000000000000000)(he:x.ef.length<=100000)(hp:x.pl.length<=100000)(hq:y.q.length<=100000):
  AP prog 144 [.d (pD (L i) 0),.d (pD (v j) 0),.d (AF a)] (HN M) λr H'=>r= .tup []/\∃K M',H'=HN M'/\CX Y mv L v K M'/\K.nh=N.nh/\K.mh=N.mh/\(∃X,K.nd=N.nd.set i X/\FD X=FD (qQ x j y.q.length a))/\∃y',K.po=N.po.set j y'/\Cg y'=Cg (qP y i a):=by
 have A:=h.n i x u;have P:=(h.nn i x u).2.1;have hrp:=(h.nn i x u).2.2;have D:=(φ.1 u).1;have t:=(φ.1 O).1;have Q:=VJ (h.pp j y O).2;refine Av func144 Z Z ntmps144 Z Z Z λF W=>?_;refine AC (AE (ek Z Z (ek Z Z (J (Dh Z Z) (J (Cd Z LL Z Z Z) (J (EI (f:=40) Z Z (A) Z XW Z) (ek Z Z (ek Z Z ?_))))))));refine J (E5 aa sr Z Z Z) (V (C1 1 nz Z Z Z Z Z Z Z Z) (V (H7 10 60 40 P Z Z (by simp) Z Z Z Z Z (Ev (emb:=eW v) x.ef [(j,a)] Z Z Z Z Z Z Z Z nz (by simp only[υ];omega) Z Z Z Z)) (F2 15 60 40 W Z Z Z (by simp) (by simp) Z Z Z Z Z Z Z (λ_ _=>rfl) λb1 c1 H T=>(J (Dh Z Z) (J (Cd Z LL Z Z Z) (V (QF (f:=40) Z Z Z Z (h.keepE u H A) ((by show _<9;omega)) Z sU) (AD (AC ?_))))))));have I:=h.addE u (j,a) t H T;have w:=I.p j y O;refine AE (ek Z Z (J (Dh Z Z) ?_));refine J (Cd Z LJ Z Z Z) (J (EI (f:=40) Z Z (w) Z Fo Z) (ek Z Z (J (Aj Z Z (Ξ _ (by omega)) Z) (J (Dh Z Z) (J (Cd Z LJ Z Z Z) (V (QF (f:=40) Z Z Z Z (w) ((by show _<10;omega)) Z u1) (AD (AC ?_))))))));have b:=I.setPo (y':={y with sum:=y.sum+a}) O Z Z;have k:(N.nd.set i (GF x b1 c1 (j,a)))[i]? =some (GF x b1 c1 (j,a)):=List.getElem?_set_self D;have c:(N.po.set j {y with sum:=y.sum+a})[j]? =some {y with sum:=y.sum+a}:=List.getElem?_set_self t;have s:=b.n i _ k;have z:=b.p j _ c;have C:=(b.nn i _ k).2.2;refine AE (ek Z Z (J (Az Z Z Z) (AD (A6 Z (λg=>?_) (λg=>?_)))))
 .refine AC (CK [[],[],[1],[1,2],[1,2,3],[],[],[6],[6,7],[6,7,8],[6,7,8,9],[5,6,7,8,9,10],[5,6,7,8,9,10,11],[1,2,3,4,5,6,7,8,9,10,11,12],rg 14,rg 15,rg 16] mixed Z (By (Ap 0 Z Z ?_)));refine Ap 0 Z Z (AR [29] Z (Dh Z Z) (AR [30] Z (Cd Z LK Z Z Z) (Aq [31] [40] Z Z (λ_=>Aa (EI (f:=40) Z Z (s) Z XV Z)) (Ap 1 Z Z (Ap 1 Z Z (AR [34] Z (Dh Z Z) (AR [35] Z (Cd Z Hw Z Z Z) (Aq [36] [40] Z Z (λ_=>Aa (EI (f:=40) Z Z (z) Z HD Z)) ?_))))))));refine AR [37] Z (Wg Q Z cj Z) (AR [33,38] Z (E5 Wl si Z Z Z) (F6 [39] [2] [(40,_)] Z Z (λ_=>F7 (C1 2 ny Z Z Z Z Z Z Z Z)) (.inr ⟨40,_,Z,Z,Z,Z,Z⟩) Z Z Z Z Z (F6 [32,40] [61,40,2] [(41,_)] Z Z (λ_=>F7 (H7 32 61 40 C Z Z (by simp[GF]) Z Z Z Z Z (Ev (emb:=kN v) x.pl [(j,y.q.length)] Z Z Z Z Z Z Z Z ny (by simp only[υ];omega) Z Z Z Z))) (.inr ⟨41,_,Z,Z,Z,Z,Z⟩) Z Z Z Z Z (Bu 14 Z Z Z (Ab 15 Z Z (F2 41 61 40 W Z Z Z (by simp) (by simp) Z Z Z Z Z Z Z (λ_ _=>rfl) λb2 c2 G S=>(J (Dh Z Z) (AD ⟨Z,?_⟩))))))));refine Ab 16 Z Z (J (Cd Z LK Z Z Z) (AD ⟨Z,?_⟩));refine Ab 17 Z Z (V (QF (f:=40) Z Z Z Z (b.keepP k G s) ((by show _<9;omega)) Z sT) (AD ⟨Z,?_⟩));refine Bz ?_;have l:=b.addP k (j,y.q.length) (by show j<(N.po.set j _).length;rw[iB];exact t) G S;have o:=l.p j _ c;have B:=(l.pp j _ c).2;refine AE (ek Z Z (ek Z Z (J (Dh Z Z) (J (Cd Z Hw Z Z Z) ?_))));refine J (EI (f:=40) Z Z (o) Z HD Z) (ek Z Z (V (C1 3 XG Z Z Z Z Z Z Z Z) (V (H7 48 62 40 B Z Z (by simp) Z Z Z Z Z (Ev (emb:=λi=>B2 (L i)) y.q [i] Z Z Z Z Z Z Z Z XG (by simp only[υ];omega) Z Z Z Z)) (F2 51 62 40 W Z Z Z (by simp) (by simp) Z Z Z Z Z Z Z (λ_ _=>rfl) λb3 c3 E R=>(J (Dh Z Z) (J (Cd Z Hw Z Z Z) (V (QF (f:=40) Z Z Z Z (l.keepQ c E o) ((by show _<10;omega)) Z nq) (AD ?_))))))));have U:=l.addQ c (i:=i) (by show i<((N.nd.set i _).set i _).length;rw[iB,iB];exact D) E R;exact ⟨_,[40],_,A0 Z,Z,Z,Z,_,_,Z,U,Z,Z,⟨_,List.set_set _,by unfold FD JB GF qQ;simp[g]⟩,⟨_,List.set_set _,by unfold Cg L3 qP;simp[g]⟩⟩
 .refine AW ?_;exact ⟨_,[40],_,A0 Z,Z,Z,Z,_,_,Z,b,Z,Z,⟨_,Z,by unfold FD GF qQ;simp[g]⟩,⟨_,Z,by unfold Cg qP;simp[g]⟩⟩
end Go.Proofs.YteifpcnphnhaoaaGreat
